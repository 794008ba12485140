import Derived.Test.Qxb6613621aModsFails
namespace Go.Proofs.Qxb6613621aMods
open Go.ChangeShapes Go.WideShapes Go.ChangeAt Go.RowKit
set_option linter.unusedVariables false

set_option maxHeartbeats 1000000 in
theorem same_any (k n : ByteArray) (p : Bool) (x y : Addr) (w : World) :
    Calls Trym.prog 10 #[.agg #[.string k, .string n, .bool p, .iface 43 (.pointer (some x))], .agg #[.string k, .string n, .bool p, .iface 43 (.pointer (some y))]] w fun e w' => e = .returned (.bool true) ∧ Below w.heap.size w w' := by
  go_enter Trym.func10, Trym.ntmps10
  go_wp2
  go_quiet (fail)
  go_wp2
  go_ret
  exact ⟨rfl, below_drewN (((Below.refl _ _).alloc (Nat.le_refl _) _).alloc (by simp) _) _⟩

set_option maxHeartbeats 1000000 in
theorem isRow_any (k n : ByteArray) (p : Bool) (x : Addr) (w : World) :
    Calls Trym.prog 12 #[.agg #[.string k, .string n, .bool p, .iface 43 (.pointer (some x))], .agg #[.string k, .string n, .bool p, .bool true]] w fun e w' => e = .returned (.bool true) ∧ Below w.heap.size w w' := by
  go_enter Trym.func12, Trym.ntmps12
  go_wp2
  go_quiet (fail)
  go_wp2
  go_ret
  exact ⟨rfl, below_drewN (((Below.refl _ _).alloc (Nat.le_refl _) _).alloc (by simp) _) _⟩

/-- A slice of results that the call made holds L. -/
def FHolds (w : World) (a : Option Addr) (L : List Rs) : Prop :=
  L.length = 0 ∨ ∃ g, a = some ⟨g, 0, none⟩ ∧ g < w.heap.size ∧ ∀ q r, L[q]? = some r → ResAt w g (q * 4) r

theorem FHolds.below {w w' : World} {a : Option Addr} {L : List Rs} (h : FHolds w a L) (hb : Below w.heap.size w w') : FHolds w' a L := by
  rcases h with h | ⟨g, ha, hg, hc⟩
  · exact .inl h
  · exact .inr ⟨g, ha, Nat.lt_of_lt_of_le hg hb.size, fun q r hq => (hc q r hq).below hb hg⟩

theorem fholds_of_own {w : World} {base c : Nat} {a : Option Addr} {L : List Rs} (h : w.ownsRow base 36 4 (.slice a L.length c) L.length (flat L)) : FHolds w a L := by
  by_cases h0 : L.length = 0
  · exact .inl h0
  · obtain ⟨g, cap, hv, _, hlt⟩ := h.form (by omega)
    cases hv
    refine .inr ⟨g, rfl, hlt, fun q r hq => ?_⟩
    have hql := (List.getElem?_eq_some_iff.1 hq).1
    have hcell : ∀ i, i < 4 → w.cell? ⟨g, q * 4 + i, none⟩ = (cells4 r)[i]? := fun i hi => by rw [h.cellAt (q * 4 + i) (by omega), flat_get L q r hq i hi]
    exact ⟨hcell 0 (by omega), hcell 1 (by omega), hcell 2 (by omega), hcell 3 (by omega)⟩

/-- What 'Report{Results: confB1Build(rows)}.Failures()' returns. -/
def FRet (w' : World) (e : Ending) (rows : List Rw) : Prop :=
  ∃ (W : List Rs) (a : Option Addr) (c : Nat), W.map toRow = failed rows ∧ (∀ (q : Nat) (r : Rs), W[q]? = some r → ∃ p, r.err = some p) ∧ e = .returned (.slice a (failed rows).length c) ∧ FHolds w' a W

theorem failures_rows (N len : Nat) (L : List Rs) (rows : List Rw) (w : World) (hlen : len ≤ 1048576) (hL : L.map toRow = rows) (hr : rows.length = len) (h : ResHolds w N L) :
    Calls Trym.prog 8 #[.agg #[.slice (some ⟨N, 0, none⟩) len len]] w fun e w' => FRet w' e rows ∧ Below w.heap.size w w' := by
  refine (failures_any N len L w hlen (by rw [← hr, ← hL, List.length_map]) h).mono ?_
  rintro e w' ⟨⟨a, c, he, hown⟩, hb⟩
  have hfr := fails_rows L
  rw [hL] at hfr
  refine ⟨⟨fails L, a, c, hfr, fails_err L, ?_, fholds_of_own hown⟩, hb⟩
  rw [he, ← hfr, List.length_map]

theorem pair_get {W A B : List Rs} (h : W.map toRow = A.map toRow ++ B.map toRow) {i : Nat} {r : Rs} (hr : A[i]? = some r) : ∃ s, W[i]? = some s ∧ toRow s = toRow r := by
  have h1 : (W.map toRow)[i]? = some (toRow r) := by
    rw [h, List.getElem?_append_left (by rw [List.length_map]; exact (List.getElem?_eq_some_iff.1 hr).1), List.getElem?_map, hr]; rfl
  rw [List.getElem?_map, Option.map_eq_some_iff] at h1
  exact h1
theorem pair_get' {W A B : List Rs} (h : W.map toRow = A.map toRow ++ B.map toRow) {i : Nat} {r : Rs} (hr : B[i]? = some r) : ∃ s, W[A.length + i]? = some s ∧ toRow s = toRow r := by
  have h1 : (W.map toRow)[A.length + i]? = some (toRow r) := by
    rw [h, List.getElem?_append_right (by rw [List.length_map]; omega), List.length_map, Nat.add_sub_cancel_left, List.getElem?_map, hr]; rfl
  rw [List.getElem?_map, Option.map_eq_some_iff] at h1
  exact h1

/-- Two results that read alike, each with an error: their cells. -/
theorem alike_cells {w : World} {g g' o o' : Nat} {r s : Rs} (hr : ResAt w g o r) (hs : ResAt w g' o' s) (e : toRow s = toRow r) (hp : ∃ p, r.err = some p) (hq : ∃ p, s.err = some p) :
    ∃ k n p x y, ResAt w g o ⟨k, n, p, some x⟩ ∧ ResAt w g' o' ⟨k, n, p, some y⟩ := by
  obtain ⟨rk, rn, rp, re⟩ := r
  obtain ⟨sk, sn, sp, se⟩ := s
  obtain ⟨x, hx⟩ := hp
  obtain ⟨y, hy⟩ := hq
  simp only at hx hy
  subst hx hy
  unfold toRow at e
  simp only [Rw.mk.injEq] at e
  obtain ⟨rfl, rfl, rfl, _⟩ := e
  exact ⟨_, _, _, x, y, hr, hs⟩

theorem RHolds.take {w : World} {a : Option Addr} {len n : Nat} {rs : List Rw} (h : RHolds w a len rs) (hn : n ≤ len) : RHolds w a n (rs.take n) := by
  refine ⟨by rw [List.length_take, h.1]; omega, ?_⟩
  rcases h.2 with h0 | ⟨B, off, ha, hB, hc⟩
  · exact .inl (by omega)
  · refine .inr ⟨B, off, ha, hB, fun k r hk => hc k r ?_⟩
    have hkl := (List.getElem?_eq_some_iff.1 hk).1
    rw [List.length_take] at hkl
    rw [List.getElem?_take] at hk
    rw [if_pos (by omega)] at hk
    exact hk
theorem RHolds.drop {w : World} {B off len n : Nat} {rs : List Rw} (h : RHolds w (some ⟨B, off, none⟩) len rs) (hn : n < len) : RHolds w (some ⟨B, off + n * 4, none⟩) (len - n) (rs.drop n) := by
  refine ⟨by rw [List.length_drop, h.1], ?_⟩
  rcases h.2 with h0 | ⟨B', off', ha, hB, hc⟩
  · omega
  · cases ha
    refine .inr ⟨B, off + n * 4, rfl, hB, fun k r hk => ?_⟩
    rw [List.getElem?_drop] at hk
    have := hc (n + k) r hk
    rw [show off + (n + k) * 4 = off + n * 4 + k * 4 from by omega] at this
    exact this
theorem RHolds.none {w : World} {a a' : Option Addr} {len n : Nat} {rs : List Rw} (h : RHolds w a len rs) (hn : len = n) : RHolds w a' (len - n) (rs.drop n) :=
  ⟨by rw [List.length_drop, h.1], .inl (by omega)⟩
end Go.Proofs.Qxb6613621aMods
