import Derived.WalkKit
import Derived.OpenShut
namespace Go.Proofs.Qxb6613621aMods
open Go Go.RowKit

/-- A row of the law's own input. -/
structure Rw where
  kind : ByteArray
  name : ByteArray
  pos : Bool
  failed : Bool

/-- A result of a report; its error, where it has one, by the address that it points to. -/
structure Rs where
  kind : ByteArray
  name : ByteArray
  pos : Bool
  err : Option Addr

def errV : Option Addr → Value
  | none => .nilIface
  | some p => .iface 43 (.pointer (some p))
def toRow (r : Rs) : Rw := ⟨r.kind, r.name, r.pos, r.err.isSome⟩
def isErr (r : Rs) : Bool := r.err.isSome
def cells4 (r : Rs) : List Value := [.string r.kind, .string r.name, .bool r.pos, errV r.err]
def flat (L : List Rs) : List Value := L.flatMap cells4
def fails (L : List Rs) : List Rs := L.filter isErr
def failed (rs : List Rw) : List Rw := rs.filter (fun r => r.failed)

theorem flat_append (L M : List Rs) : flat (L ++ M) = flat L ++ flat M := by simp [flat]
theorem flat_length (L : List Rs) : (flat L).length = L.length * 4 := by
  induction L with
  | nil => rfl
  | cons r L ih =>
    have : flat (r :: L) = cells4 r ++ flat L := rfl
    rw [this, List.length_append, ih, List.length_cons]
    have h4 : (cells4 r).length = 4 := rfl
    omega
theorem flat_get (L : List Rs) (q : Nat) (r : Rs) (h : L[q]? = some r) (c : Nat) (hc : c < 4) : (flat L)[q * 4 + c]? = (cells4 r)[c]? := by
  induction L generalizing q with
  | nil => simp at h
  | cons s L ih =>
    have e : flat (s :: L) = cells4 s ++ flat L := rfl
    rw [e]
    cases q with
    | zero =>
      simp at h
      subst h
      rw [List.getElem?_append_left (by show 0 * 4 + c < 4; omega)]
      simp
    | succ q =>
      rw [List.getElem?_append_right (by show 4 ≤ (q + 1) * 4 + c; omega)]
      have : (q + 1) * 4 + c - (cells4 s).length = q * 4 + c := by show (q + 1) * 4 + c - 4 = _; omega
      rw [this]
      exact ih q (by simpa using h)

theorem fails_rows (L : List Rs) : (fails L).map toRow = failed (L.map toRow) := by
  induction L with
  | nil => rfl
  | cons r L ih =>
    unfold fails failed at *
    simp only [List.filter_cons, List.map_cons]
    by_cases h : isErr r = true
    · have h' : (toRow r).failed = true := h
      rw [if_pos h, if_pos h', List.map_cons, ih]
    · have h' : ¬ (toRow r).failed = true := h
      rw [if_neg h, if_neg h', ih]
theorem fails_err (L : List Rs) (q : Nat) (r : Rs) (h : (fails L)[q]? = some r) : ∃ p, r.err = some p := by
  have hm : r ∈ fails L := List.mem_of_getElem? h
  have := (List.mem_filter.1 hm).2
  exact Option.isSome_iff_exists.1 this
theorem fails_length (L : List Rs) : (fails L).length = (failed (L.map toRow)).length := by rw [← fails_rows, List.length_map]
theorem fails_le (L : List Rs) : (fails L).length ≤ L.length := List.length_filter_le _ _
theorem failed_le (rs : List Rw) : (failed rs).length ≤ rs.length := List.length_filter_le _ _
theorem take_snoc {α : Type} (l : List α) (k : Nat) (x : α) (h : l[k]? = some x) : l.take (k + 1) = l.take k ++ [x] := by
  rw [List.take_add_one, h]; rfl
theorem fails_snoc_yes (L : List Rs) (k : Nat) (r : Rs) (h : L[k]? = some r) (p : Addr) (hp : r.err = some p) : fails (L.take (k + 1)) = fails (L.take k) ++ [r] := by
  rw [take_snoc L k r h]; unfold fails; rw [List.filter_append]
  have : isErr r = true := by simp [isErr, hp]
  simp [this]
theorem fails_snoc_no (L : List Rs) (k : Nat) (r : Rs) (h : L[k]? = some r) (hp : r.err = none) : fails (L.take (k + 1)) = fails (L.take k) := by
  rw [take_snoc L k r h]; unfold fails; rw [List.filter_append]
  have : isErr r = false := by simp [isErr, hp]
  simp [this]
theorem failed_snoc (rs : List Rw) (k : Nat) (r : Rw) (h : rs[k]? = some r) : (failed (rs.take (k + 1))).length = (failed (rs.take k)).length + if r.failed then 1 else 0 := by
  rw [take_snoc rs k r h]; unfold failed; rw [List.filter_append, List.length_append]
  cases hr : r.failed <;> simp [hr]
theorem failed_split (rs : List Rw) (k : Nat) : failed rs = failed (rs.take k) ++ failed (rs.drop k) := by
  unfold failed; rw [← List.filter_append, List.take_append_drop]
/-- A list by its places. -/
theorem list_of {α : Type} {n : Nat} {p : Nat → α → Prop} (h : ∀ i, i < n → ∃ x, p i x) : ∃ l : List α, l.length = n ∧ ∀ i x, l[i]? = some x → p i x := by
  induction n with
  | zero => exact ⟨[], rfl, fun i x hx => by simp at hx⟩
  | succ n ih =>
    obtain ⟨l, hl, hp⟩ := ih (fun i hi => h i (by omega))
    obtain ⟨x, hx⟩ := h n (by omega)
    refine ⟨l ++ [x], by simp [hl], fun i y hy => ?_⟩
    by_cases hi : i < n
    · rw [List.getElem?_append_left (by omega)] at hy
      exact hp i y hy
    · have hin : i = n := by
        have := (List.getElem?_eq_some_iff.1 hy).1
        simp [hl] at this
        omega
      subst hin
      rw [List.getElem?_append_right (by omega), hl] at hy
      simp at hy
      subst hy
      exact hx
end Go.Proofs.Qxb6613621aMods
