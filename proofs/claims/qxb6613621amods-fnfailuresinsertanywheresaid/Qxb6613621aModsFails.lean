import Derived.Test.Qxb6613621aModsBuild
import Derived.Deep.QuietTactic
import Derived.BigQuiet
namespace Go.Proofs.Qxb6613621aMods
open Go.ChangeShapes Go.WideShapes Go.ChangeAt Go.RowKit
set_option linter.unusedVariables false

/-- It returned a slice that owns the results L. -/
def Failed (w w' : World) (e : Ending) (L : List Rs) : Prop :=
  ∃ a c, e = .returned (.slice a L.length c) ∧ w'.ownsRow w.heap.size 36 4 (.slice a L.length c) L.length (flat L)

theorem flat_one (r : Rs) : flat [r] = cells4 r := by simp [flat]

set_option maxHeartbeats 1000000 in
theorem failures_any (N len : Nat) (L : List Rs) (w : World) (hlen : len ≤ 1048576) (hL : L.length = len) (h : ResHolds w N L) :
    Calls Trym.prog 8 #[.agg #[.slice (some ⟨N, 0, none⟩) len len]] w fun e w' => Failed w w' e (fails L) ∧ Below w.heap.size w w' := by
  obtain ⟨i0, hi, hz0, hz1, hz2⟩ := info_parts info36
  go_enter Trym.func8, Trym.ntmps8
  go_wp2
  go_loopw [3, 9] (fun v i wr => ∃ (k : Nat) (a : Option Addr) (c : Nat), k ≤ len ∧ i = .int .i64 k ∧ v = .slice a (fails (L.take k)).length c ∧ wr.ownsRow w.heap.size 36 4 (.slice a (fails (L.take k)).length c) (fails (L.take k)).length (flat (fails (L.take k))) ∧ Below w.heap.size w wr) (fun _ i _ => len - (intOf i).toNat)
  case atStart => exact ⟨0, none, 0, Nat.zero_le _, rfl, rfl, World.ownsRow_nil _ _ _ _, (Below.refl _ _).alloc (Nat.le_refl _) _⟩
  case round =>
    obtain ⟨k, a, c, hk, rfl, rfl, hown, hbel⟩ := hrel
    by_cases hlt : k < len
    · obtain ⟨r, hr⟩ : ∃ r, L[k]? = some r := ⟨_, List.getElem?_eq_getElem (by omega)⟩
      obtain ⟨c0, c1, c2, c3⟩ := (h.2 k r hr).below hbel h.1
      have hsz := hbel.size
      have hm : (fails (L.take k)).length ≤ 1048576 := by
        have := fails_le (L.take k)
        rw [List.length_take] at this
        omega
      obtain ⟨rk, rn, rp, re⟩ := r
      simp only at c0 c1 c2 c3
      cases re with
      | none =>
        have hs := fails_snoc_no L k _ hr rfl
        have hs' : Hid (fails (L.take (k + 1)) = fails (L.take k)) := hs
        rw [show errV none = .nilIface from rfl] at c3
        clear hs hr
        go_wp2
        go_roundw
        case rel => exact ⟨k + 1, a, c, by omega, by go_num, by rw [hs'.out], by rw [hs'.out]; exact hown.alloc _, hbel.alloc hsz _⟩
        case measure => simp [intOf]; omega
      | some p =>
        have hs := fails_snoc_yes L k _ hr p rfl
        have hs' : Hid (fails (L.take (k + 1)) = fails (L.take k) ++ [⟨rk, rn, rp, some p⟩]) := hs
        rw [show errV (some p) = .iface 43 (.pointer (some p)) from rfl] at c3
        clear hs hr
        go_wp2_with (at_builtin; refine wpList_append_own _ rfl (.tmp 16) (.tmp 18) 25 rfl w.heap.size 36 i0 _ 4 56 Trym.underlying25 hi hz0 hz1 hz2 rfl (by decide) _ (fails (L.take k)).length (flat (fails (L.take k))) rfl ((hown.alloc _).alloc _) ⟨wr.heap.size + 1, 0, none⟩ 1 1 (cells4 ⟨rk, rn, rp, some p⟩) rfl rfl ?c1 ?c2 ?c3 ?c4 ?c5 ?_)
        case c1 =>
          intro j u hj
          rw [add_plain, Nat.zero_add, World.cell?_alloc2_new]
          match j, hj with
          | 0, hj => simpa [cells4] using hj
          | 1, hj => simpa [cells4] using hj
          | 2, hj => simpa [cells4] using hj
          | 3, hj => simpa [cells4, errV] using hj
          | j + 4, hj => simp [cells4] at hj
        case c2 => intro u hu; simp [cells4, errV] at hu; rcases hu with rfl | rfl | rfl | rfl <;> rfl
        case c3 => unfold maxLen; omega
        case c4 => omega
        case c5 => simp; omega
        intro v' w1 hown1 hgrow hnil
        obtain ⟨g, cap', rfl, _, _⟩ := hown1.form (by omega)
        have hbel1 : Below w.heap.size w w1 := ((hbel.alloc hsz _).alloc (by simp; omega) _).grown hgrow (by simp; omega) (fun q hq => (hown.lt q hq).1)
        have hlen1 : Hid ((fails (L.take (k + 1))).length = (fails (L.take k)).length + 1) := by show _ = _; rw [hs'.out]; simp
        have hown2 : w1.ownsRow w.heap.size 36 4 (.slice (some ⟨g, 0, none⟩) (fails (L.take (k + 1))).length cap') (fails (L.take (k + 1))).length (flat (fails (L.take (k + 1)))) := by
          rw [hlen1.out, hs'.out, flat_append, flat_one]
          exact hown1
        clear hown1 hgrow hnil hown hs'
        go_wp2
        go_roundw
        case rel => exact ⟨k + 1, _, cap', by omega, by go_num, by rw [hlen1.out], hown2, hbel1⟩
        case measure => simp [intOf]; omega
    · have hkl : L.take k = L := List.take_of_length_le (by omega)
      rw [hkl] at hown
      rw [hkl]
      clear hkl
      go_wp2
      go_ret
      exact ⟨⟨a, c, rfl, hown⟩, hbel⟩
end Go.Proofs.Qxb6613621aMods
