/- Proof of Rows.FnAtomicCutKeysAnywhereSaid; the frame after the shell that the kit's tool writes for slices of integers. -/
import Derived.Test.Qxb6613075aModsRows
import Derived.Test.Qxb6613075aModsKeys
import Derived.WalkKit
import Derived.ProofKit
import Derived.OpenShut
import Derived.ShutString
import Derived.ChangeOld
import Derived.Below
import Derived.SliceStrings
namespace Go.Proofs.Qxb6613075aMods.fnAtomicCutKeysAnywhere
open Go.ChangeShapes Go.WideShapes Go.ChangeAt Go.RowKit
open Go.ChangeMaps (open_string shut_string)
set_option linter.unusedVariables false

theorem own : ownKnob Trym.prog.godebug = none := by kernel_rfl
theorem laidOut : laidOutB Trym.prog = true := by kernel_rfl

theorem atm_zero (b : Bool) : atm b 0 = !b := by cases b <;> rfl
theorem atm_cut (b : Bool) (len n r : Nat) (hn : n ≤ len) (hr : r = len - n) : atm b len = (atm b n && atm b r) := by
  subst hr
  unfold atm
  cases b
  · by_cases hz : len = 0
    · have hz' : n = 0 := by omega
      subst hz; subst hz'; rfl
    · by_cases hz' : n = 0
      · subst hz'; simp [hz]
      · simp [hz, hz']
  · rfl

set_option maxHeartbeats 1000000 in
theorem walk (b : Bool) (a : Option Addr) (len cap : Nat) (s : Nat → ByteArray) (at' : Int) (w : World) (hm : len ≤ 9223372036854775807) (h : SHolds w a len s) :
    Calls Trym.prog 3 #[.bool b, .slice a len cap, .int .i64 at'] w fun e w' => e = .returned (.bool true) ∧ Below w.heap.size w w' := by
  go_enter Trym.func3, Trym.ntmps3
  go_wp2_with fail
  refine (zzbytes_any b a len cap s at' w hm h).mono ?_
  rintro e w' ⟨⟨r, rfl, hr⟩, rfl⟩
  cases r with
  | false =>
    clear hr
    go_wp2
    go_ret
    exact ⟨rfl, Below.refl _ _⟩
  | true =>
    have hl := hr rfl
    clear hr
    go_wp2_with fail
    refine (stringsBytes_any a len cap s 0 w hl h).mono ?_
    rintro e w' ⟨⟨y, rfl⟩, rfl⟩
    by_cases hy : 1048576 < y
    · go_wp2
      go_ret
      exact ⟨rfl, Below.refl _ _⟩
    · by_cases h0 : at' < 0
      · go_wp2
        go_ret
        exact ⟨rfl, Below.refl _ _⟩
      · by_cases h1 : (len : Int) < at'
        · go_wp2
          go_ret
          exact ⟨rfl, Below.refl _ _⟩
        · obtain ⟨n, rfl⟩ : ∃ n : Nat, at' = n := ⟨at'.toNat, by omega⟩
          have hn : n ≤ len := by omega
          go_wp2_with fail
          refine (keys_any a len cap s w hl h).mono ?_
          rintro e w1 ⟨⟨x, rfl⟩, hb1⟩
          go_wp2_with fail
          refine (atomic_any b x len len w1).mono ?_
          rintro e w2 ⟨rfl, hb2⟩
          go_wp2_with fail
          refine (atomic_any b _ n len w2).mono ?_
          rintro e w3 ⟨rfl, hb3⟩
          have hZ' : Hid (atm b 0 = !b) := atm_zero b
          have z1 := hb1.size
          have z2 := hb2.size
          have z3 := hb3.size
          have hB3 : Below w.heap.size w w3 := (hb1.trans (hb2.mono (by omega))).trans (hb3.mono (by omega))
          clear hb1 hb2 hb3 z1 z2
          by_cases hnl : len = n
          · subst hnl
            have hX' : Hid (atm b len = (atm b len && atm b 0)) := atm_cut b len len 0 (by omega) (by omega)
            go_wp2_with fail
            refine (atomic_any b _ 0 _ w3).mono ?_
            rintro e w4 ⟨rfl, hb4⟩
            go_wp2_with fail
            refine (atomic_any b _ 0 _ w4).mono ?_
            rintro e w5 ⟨rfl, hb5⟩
            have z4 := hb4.size
            have hB : Below w.heap.size w w5 := (hB3.trans (hb4.mono (by have := hB3.size; omega))).trans (hb5.mono (by have := hB3.size; omega))
            have hX := hX'.out
            have hZ := hZ'.out
            clear hX' hZ'
            revert hX hZ
            generalize atm b len = L
            generalize atm b 0 = R
            intro hX hZ
            cases L <;> cases R <;> cases b <;> first | (exfalso; revert hX hZ; decide) | (clear hX hZ; go_wp2; go_ret; exact ⟨rfl, hB⟩)
          · have hX' : Hid (atm b len = (atm b n && atm b (len - n))) := atm_cut b len n (len - n) (by omega) (by omega)
            go_wp2_with fail
            refine (atomic_any b _ (len - n) _ w3).mono ?_
            rintro e w4 ⟨rfl, hb4⟩
            go_wp2_with fail
            refine (atomic_any b _ 0 _ w4).mono ?_
            rintro e w5 ⟨rfl, hb5⟩
            have z4 := hb4.size
            have hB : Below w.heap.size w w5 := (hB3.trans (hb4.mono (by have := hB3.size; omega))).trans (hb5.mono (by have := hB3.size; omega))
            have hX := hX'.out
            have hZ := hZ'.out
            clear hX' hZ'
            revert hX hZ
            generalize atm b len = X
            generalize atm b 0 = Z
            generalize atm b n = L
            generalize atm b (len - n) = R
            intro hX hZ
            subst hX hZ
            cases L <;> cases R <;> cases b
            all_goals
              go_wp2
              go_ret
              exact ⟨rfl, hB⟩

/-! ### THE ROW's STEP: WRITTEN OUT: LEAVE IT -/
set_option maxRecDepth 100000 in
theorem lifted (os : Os) (started : os.Started) (H : Type) (enc : TypeId × Value → H) :
    ReturnsInHanded {} Trym.checked os 3 .any (Rows.fnAtomicCutKeysAnywhereSpec.pre6 enc Trym.prog Trym.f3 Rows.fnAtomicCutKeysAnywhereRow.domain false) (Rows.fnAtomicCutKeysAnywhereSpec.post enc Trym.prog Trym.f3 false true false false) := by
  refine returnsInHanded_of_change (C := Trym.checked) own started (by kernel_rfl) Trym.func3
    (ChangeSpec.witness6 (enc := enc) (C := Trym.checked) false ⟨#[], #[.bool false, .slice none 0 0, .int .i64 0], []⟩ 8 (by kernel_rfl) (by kernel_rfl) (by kernel_rfl) (by kernel_rfl)) ?_
  intro W base args ds gs before hval0 hW hcnd _
  have hval : ∀ (j : Nat) t v, Trym.f3.params[j]? = some t → args[j]? = some v → Value.okWide Trym.prog W .any base t v := hval0
  have hW' := hW
  obtain ⟨p, q, hA0, hV, rfl, hfz, hnd⟩ := hW
  have hA : DataW.TrodAll enc Trym.prog W 0 (fun _ => true) true Trym.f3.params.toList args.toList ds p := hA0
  rw [Trym.params3] at hA hval
  obtain ⟨v0, vs0, d0, ds0, p0, q0, hargs, rfl, rfl, h0, r0⟩ := trodAll_cons hA
  obtain ⟨v1, vs1, d1, ds1, p1, q1, rfl, rfl, rfl, h1, r1⟩ := trodAll_cons r0
  obtain ⟨v2, vs2, d2, ds2, p2, q2, rfl, rfl, rfl, h2, r2⟩ := trodAll_cons r1
  obtain ⟨rfl, rfl, rfl⟩ := trodAll_nil r2
  obtain rfl : args = #[v0, v1, v2] := by cases args; simp_all
  obtain ⟨rfl, rfl⟩ := trodVars_none hV
  obtain ⟨a0, rfl, rfl, rfl⟩ := open_bool Trym.underlying4 (hval 0 4 v0 rfl rfl) h0
  obtain ⟨a1, len1, cap1, rfl⟩ := okWide_slice Trym.underlying22 (hval 1 22 v1 rfl rfl)
  have k1 := h1
  have lt1 : ∀ x ∈ p1, x.block < W.heap.size := by obtain ⟨m, hm⟩ := k1; exact DataW.trod_lt m _ _ _ hm
  obtain ⟨s1, hm1, w1⟩ : ∃ s : Nat → ByteArray, len1 ≤ maxLen ∧ SHolds W a1 len1 s := by
    obtain ⟨fuel, hf⟩ := h1
    rcases open_strings Trym.underlying22 Trym.underlying9 (by kernel_rfl) hf with ⟨hcs, _⟩ | ⟨x, l, c, ss, hcs, _, hl, hm, hz, _, hcell, hws⟩
    · simp [Value.cells] at hcs
      obtain ⟨rfl, rfl, rfl⟩ := hcs
      exact ⟨fun _ => ByteArray.empty, Nat.zero_le _, .inl rfl⟩
    · simp [Value.cells] at hcs
      obtain ⟨rfl, rfl, rfl⟩ := hcs
      refine ⟨fun k => ss.getD k ByteArray.empty, by omega, ?_⟩
      by_cases h0 : len1 = 0
      · exact .inl h0
      · have hz' : ss.length = cap1 := by simpa using hz
        obtain ⟨b, off, spot⟩ := x
        have hspot : spot = none := by simpa [Addr.add] using World.cell?_spot (hcell 0 (by omega))
        subst hspot
        have hlt : b < W.heap.size := block_lt_of_cell (hcell 0 (by omega))
        exact .inr ⟨b, off, rfl, hlt, fun k hk => by have := hcell k (by omega); rwa [add_plain] at this⟩
  obtain ⟨a2, rfl, rfl, rfl, w2⟩ := open_int Trym.underlying3 (hval 2 3 v2 rfl rfl) h2
  clear hA0 hval0
  unfold maxLen at hm1
  refine (walk a0 a1 len1 cap1 s1 a2 W (by omega) w1).mono fun e W' ⟨he, bel⟩ => ?_
  subst he
  exact ⟨_, rfl, _, _, _, [], _, [], hW', trodAll_mk1 (shut_bool Trym.underlying4 _), (trodAll_cons_mk (shut_bool Trym.underlying4 a0) (trodAll_cons_mk (Below.trod laidOut (by kernel_rfl) (of_decide_eq_true (by kernel_rfl)) k1 bel lt1) (trodAll_cons_mk (shut_int Trym.underlying3 w2) trodAll_mk0))), rfl, bel.frame _, fun h => by cases h⟩

theorem over : Rows.fnAtomicCutKeysAnywhereRow.holds Trym.pinned (OpenSpec.ofChange Rows.fnAtomicCutKeysAnywhereSpec) :=
  OpenClaim.holds_of_wide 3 Trym.f3 rfl rfl rfl rfl rfl rfl rfl ⟨rfl, rfl, rfl, rfl, rfl⟩ rfl rfl rfl rfl rfl (by kernel_rfl) Trym.func3 (by kernel_rfl)
    (of_decide_eq_true (by kernel_rfl)) (by unfold Func.isWrapper; first | (rw [if_pos (by decide +kernel)]; kernel_rfl) | (rw [if_neg (by decide +kernel)]; exact ⟨rfl, rfl⟩))
    (fun os started H enc _ => lifted os started H enc)

/-- ████ THE STATEMENT ████ -/
theorem proved : Rows.FnAtomicCutKeysAnywhereSaid := over
#print axioms proved
end Go.Proofs.Qxb6613075aMods.fnAtomicCutKeysAnywhere
