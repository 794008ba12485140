import Derived.Test.Qxb6613621aModsRows
import Derived.Test.Qxb6613621aModsPlain
import Derived.WalkKit
import Derived.ProofKit
import Derived.OpenShut
import Derived.ChangeOld
import Derived.Below
import Derived.WalkSpells
import Derived.WalkLawsBesides
namespace Go.Proofs.Qxb6613621aMods
open Go.ChangeShapes Go.WideShapes Go.ChangeAt Go.RowKit
set_option linter.unusedVariables false

/-- The four cells of a row. -/
structure RowAt (w : World) (B o : Nat) (r : Rw) : Prop where
  c0 : w.cell? ⟨B, o, none⟩ = some (.string r.kind)
  c1 : w.cell? ⟨B, o + 1, none⟩ = some (.string r.name)
  c2 : w.cell? ⟨B, o + 2, none⟩ = some (.bool r.pos)
  c3 : w.cell? ⟨B, o + 3, none⟩ = some (.bool r.failed)

/-- What a slice of rows holds. -/
def RHolds (w : World) (a : Option Addr) (len : Nat) (rs : List Rw) : Prop :=
  rs.length = len ∧ (len = 0 ∨ ∃ B off, a = some ⟨B, off, none⟩ ∧ B < w.heap.size ∧ ∀ k r, rs[k]? = some r → RowAt w B (off + k * 4) r)

theorem RowAt.below {w w' : World} {B o N : Nat} {r : Rw} (h : RowAt w B o r) (hb : Below N w w') (hB : B < N) : RowAt w' B o r :=
  ⟨(hb.cell (by exact hB)).trans h.c0, (hb.cell (by exact hB)).trans h.c1, (hb.cell (by exact hB)).trans h.c2, (hb.cell (by exact hB)).trans h.c3⟩

theorem RHolds.below {w w' : World} {a : Option Addr} {len : Nat} {rs : List Rw} (h : RHolds w a len rs) (hb : Below w.heap.size w w') : RHolds w' a len rs := by
  refine ⟨h.1, ?_⟩
  rcases h.2 with h | ⟨B, off, ha, hB, hc⟩
  · exact .inl h
  · exact .inr ⟨B, off, ha, Nat.lt_of_lt_of_le hB hb.size, fun k r hk => (hc k r hk).below hb hB⟩

/-- It returned some int. -/
def RetInt (e : Ending) : Prop := ∃ y, e = .returned (.int .i64 y)
/-- It returned some bool. -/
def RetB (e : Ending) : Prop := ∃ r, e = .returned (.bool r)

set_option maxHeartbeats 2000000 in
theorem zzbytes5 (a : Option Addr) (len cap : Nat) (rs : List Rw) (x : Int) (w : World) (hlen : len ≤ 9223372036854775807) (h : RHolds w a len rs) :
    Calls Trym.prog 5 #[.slice a len cap, .int .i64 x] w fun e w' => RetB e ∧ w = w' := by
  by_cases hl : len ≤ 1048576
  · go_enter Trym.func5, Trym.ntmps5
    go_wp2
    go_loop [5, 6] (fun acc i => ∃ (k : Nat) (y : Int), k ≤ len ∧ i = .int .i64 k ∧ acc = .int .i64 y) (fun _ i => len - (intOf i).toNat)
    case atStart => exact ⟨0, _, Nat.zero_le _, rfl, rfl⟩
    case round =>
      obtain ⟨k, y, hk, rfl, rfl⟩ := hrel
      by_cases hlt : k < len
      · rcases h.2 with h0 | ⟨B, off, rfl, hB, hc⟩
        · omega
        obtain ⟨r, hr⟩ : ∃ r, rs[k]? = some r := ⟨_, List.getElem?_eq_getElem (by rw [h.1]; exact hlt)⟩
        obtain ⟨c0, c1, c2, c3⟩ := hc k r hr
        clear hc hr h
        go_wp2
        all_goals first | (go_ret; exact ⟨⟨_, rfl⟩, rfl⟩) | skip
        go_round
        case rel => exact ⟨k + 1, _, by omega, by go_num, rfl⟩
        case measure => simp [intOf]; omega
      · go_wp2
        go_ret
        exact ⟨⟨_, rfl⟩, rfl⟩
  · have h' : (1048576 : Int) < len := by omega
    go_enter Trym.func5, Trym.ntmps5
    go_wp2
    go_ret
    exact ⟨⟨_, rfl⟩, rfl⟩

set_option maxHeartbeats 2000000 in
theorem rowBytes (a : Option Addr) (len cap : Nat) (rs : List Rw) (x : Int) (w : World) (hlen : len ≤ 65536) (h : RHolds w a len rs) :
    Calls Trym.prog 6 #[.slice a len cap, .int .i64 x] w fun e w' => RetInt e ∧ w = w' := by
  by_cases hx : 1048576 < x
  · go_enter Trym.func6, Trym.ntmps6
    go_wp2
    go_ret
    exact ⟨⟨_, rfl⟩, rfl⟩
  · go_enter Trym.func6, Trym.ntmps6
    go_wp2
    go_loop [1, 5] (fun acc i => ∃ (k : Nat) (y : Int), k ≤ len ∧ i = .int .i64 k ∧ acc = .int .i64 y) (fun _ i => len - (intOf i).toNat)
    case atStart => exact ⟨0, _, Nat.zero_le _, rfl, rfl⟩
    case round =>
      obtain ⟨k, y, hk, rfl, rfl⟩ := hrel
      by_cases hlt : k < len
      · rcases h.2 with h0 | ⟨B, off, rfl, hB, hc⟩
        · omega
        obtain ⟨r, hr⟩ : ∃ r, rs[k]? = some r := ⟨_, List.getElem?_eq_getElem (by rw [h.1]; exact hlt)⟩
        obtain ⟨c0, c1, c2, c3⟩ := hc k r hr
        clear hc hr h
        go_wp2
        all_goals first | (go_ret; exact ⟨⟨_, rfl⟩, rfl⟩) | skip
        go_round
        case rel => exact ⟨k + 1, _, by omega, by go_num, rfl⟩
        case measure => simp [intOf]; omega
      · go_wp2
        go_ret
        exact ⟨⟨_, rfl⟩, rfl⟩

set_option maxHeartbeats 2000000 in
theorem countFailed (a : Option Addr) (len cap : Nat) (rs : List Rw) (w : World) (hlen : len ≤ 65536) (h : RHolds w a len rs) :
    Calls Trym.prog 9 #[.slice a len cap] w fun e w' => e = .returned (.int .i64 ((failed rs).length : Nat)) ∧ w = w' := by
  have hrs := h.1
  go_enter Trym.func9, Trym.ntmps9
  go_wp2
  go_loop [3, 4] (fun c i => ∃ (k : Nat), k ≤ len ∧ i = .int .i64 k ∧ c = .int .i64 ((failed (rs.take k)).length : Nat)) (fun _ i => len - (intOf i).toNat)
  case atStart => exact ⟨0, Nat.zero_le _, rfl, rfl⟩
  case round =>
    obtain ⟨k, hk, rfl, rfl⟩ := hrel
    by_cases hlt : k < len
    · rcases h.2 with h0 | ⟨B, off, rfl, hB, hc⟩
      · omega
      obtain ⟨r, hr⟩ : ∃ r, rs[k]? = some r := ⟨_, List.getElem?_eq_getElem (by rw [h.1]; exact hlt)⟩
      obtain ⟨c0, c1, c2, c3⟩ := hc k r hr
      have hs : Hid ((failed (rs.take (k + 1))).length = (failed (rs.take k)).length + if r.failed then 1 else 0) := failed_snoc rs k r hr
      have hle : (failed (rs.take k)).length ≤ 65536 := by
        have := failed_le (rs.take k)
        rw [List.length_take] at this
        omega
      clear hc hr h
      obtain ⟨rk, rn, rp, rf⟩ := r
      simp only at c0 c1 c2 c3
      cases rf with
      | true =>
        go_wp2
        go_round
        case rel => exact ⟨k + 1, by omega, by go_num, by have := hs.out; simp only [if_true] at this; rw [this]; go_num⟩
        case measure => simp [intOf]; omega
      | false =>
        go_wp2
        go_round
        case rel => exact ⟨k + 1, by omega, by go_num, by have := hs.out; simp at this; rw [this]⟩
        case measure => simp [intOf]; omega
    · have hkl : rs.take k = rs := List.take_of_length_le (by omega)
      rw [hkl]
      clear hkl
      go_wp2
      go_ret
      exact ⟨rfl, rfl⟩
end Go.Proofs.Qxb6613621aMods
