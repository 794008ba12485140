/- Proof of Rows.FnValuePeelsOnePointerPerCallSaid, on the shell laid with the seat. -/
import Derived.Test.Qxb6613075aModsRows
import Derived.WalkKit
import Derived.ProofKit
import Derived.OpenShut
import Derived.ShutString
import Derived.ChangeOld
import Derived.Below
import Derived.Test.Qxb6613075aModsPeel
namespace Go.Proofs.Qxb6613075aMods.fnValuePeelsOnePointerPerCall
open Go.ChangeShapes Go.WideShapes Go.ChangeAt Go.RowKit
open Go.ChangeMaps (open_string shut_string)
set_option linter.unusedVariables false      -- a walk need not use every 'w<i>' (that an integer argument fits its kind)

theorem own : ownKnob Trym.prog.godebug = none := by kernel_rfl

theorem iface_value (N n k : Nat) (sc : Int) (w wr : World) (hsc : (sc == 0) = false) (hk : k < n) (hch : Chain w N n) (hb : Below w.heap.size w wr) :
    Calls Trym.prog 17 #[.agg #[.iface 72 (.pointer (some ⟨N + 1 + k, 0, none⟩)), .int .i64 sc, .slice none 0 0, .pointer none, .slice none 0 0, .pointer none, .pointer none, .slice none 0 0]] wr fun e w' => e = .returned (curAt N k) ∧ Below wr.heap.size wr w' := by
  obtain ⟨t, x, hcx⟩ := curAt_iface N k
  have hc : wr.cell? ⟨N + 1 + k, 0, none⟩ = some (.iface t x) := by
    rw [hb.cell (by show N + 1 + k < w.heap.size; rw [hch.size]; omega), hch.cell k hk, hcx]
  rw [hcx]
  exact value_ptr (N + 1 + k) t x sc wr hc hsc

set_option maxHeartbeats 1000000 in
theorem walk_in (sc : Int) (n : Nat) (w : World) (hn : n ≤ 64) (hsc : (sc == 0) = false) :
    Calls Trym.prog 5 #[.int .i64 sc, .int .i64 n] w fun e w' => e = .returned (.bool true) ∧ Below w.heap.size w w' := by
  have heo := eql_other
  have heb := eql_base
  go_enter Trym.func5, Trym.ntmps5
  go_wp2_with fail
  refine (newSlice_nil w).mono ?_
  rintro e w' ⟨rfl, rfl⟩
  go_wp2_with fail
  refine (pointers_any w.heap.size n (w.alloc (.cells #[.nilIface] 71)) (by simp) hn).mono ?_
  rintro e w1 ⟨rfl, hch, hb1⟩
  have hB1 : Below w.heap.size w w1 := ((Below.refl w.heap.size w).alloc (Nat.le_refl _) _).trans (hb1.mono (by simp))
  go_wp2
  go_loopw [7, 8] (fun c i wr => ∃ k : Nat, k ≤ n ∧ i = .int .i64 k ∧ c = curAt w.heap.size (n - k) ∧ Below w1.heap.size w1 wr) (fun _ i _ => n - (intOf i).toNat)
  case atStart => exact ⟨0, Nat.zero_le _, rfl, rfl, Below.refl _ _⟩
  case round =>
    obtain ⟨k, hk, rfl, rfl, hbel⟩ := hrel
    by_cases hlt : k < n
    · obtain ⟨m, hm⟩ : ∃ m, n - k = m + 1 := ⟨n - k - 1, by omega⟩
      rw [hm, show curAt w.heap.size (m + 1) = .iface 72 (.pointer (some ⟨w.heap.size + 1 + m, 0, none⟩)) from rfl]
      have hm' : Hid (n - k = m + 1) := hm
      clear hm
      go_wp2_with fail
      refine (iface_value w.heap.size n m sc w1 wr hsc (by have := hm'.out; omega) hch hbel).mono ?_
      rintro e w2 ⟨rfl, hb2⟩
      go_wp2
      go_roundw
      case rel => exact ⟨k + 1, by omega, by go_num, by rw [show n - (k + 1) = m from by have := hm'.out; omega], hbel.trans (hb2.mono hbel.size)⟩
      case measure => simp [intOf]; omega
    · have hkn : k = n := by omega
      subst hkn
      rw [Nat.sub_self, show curAt w.heap.size 0 = .iface 48 (.pointer (some ⟨w.heap.size, 0, none⟩)) from rfl]
      go_wp2_with fail
      refine (value_base _ sc wr).mono ?_
      rintro e w2 ⟨rfl, hb2⟩
      go_wp2
      go_ret
      have z1 := hB1.size
      have z2 := hbel.size
      exact ⟨rfl, (hB1.trans (hbel.mono (by omega))).trans (hb2.mono (by omega))⟩

theorem walk (a0 : Int) (a1 : Int) (w0 : (Lit.int .i64 a0).wf = true) (w1 : (Lit.int .i64 a1).wf = true) (w : World) :
    Calls Trym.prog 5 #[.int .i64 a0, .int .i64 a1] w fun e w' => e = .returned (.bool true) ∧ Below w.heap.size w w' := by
  by_cases h0 : a1 < 0
  · go_enter Trym.func5, Trym.ntmps5
    go_wp2
    go_ret
    exact ⟨rfl, Below.refl _ _⟩
  · by_cases h1 : 64 < a1
    · go_enter Trym.func5, Trym.ntmps5
      go_wp2
      go_ret
      exact ⟨rfl, Below.refl _ _⟩
    · by_cases h2 : (a0 == 0) = true
      · go_enter Trym.func5, Trym.ntmps5
        go_wp2
        go_ret
        exact ⟨rfl, Below.refl _ _⟩
      · obtain ⟨n, rfl⟩ : ∃ n : Nat, a1 = n := ⟨a1.toNat, by omega⟩
        exact walk_in a0 n w (by omega) (by simpa using h2)

/-! ### THE ROW's STEP: WRITTEN OUT: LEAVE IT -/
set_option maxRecDepth 100000 in
theorem lifted (os : Os) (started : os.Started) (H : Type) (enc : TypeId × Value → H) :
    ReturnsInHanded {} Trym.checked os 5 .any (Rows.fnValuePeelsOnePointerPerCallSpec.pre6 enc Trym.prog Trym.f5 Rows.fnValuePeelsOnePointerPerCallRow.domain false) (Rows.fnValuePeelsOnePointerPerCallSpec.post enc Trym.prog Trym.f5 false true false false) := by
  refine returnsInHanded_of_change (C := Trym.checked) own started (by kernel_rfl) Trym.func5
    (ChangeSpec.witness6 (enc := enc) (C := Trym.checked) false ⟨#[], #[.int .i64 0, .int .i64 0], []⟩ 8 (by kernel_rfl) (by kernel_rfl) (by kernel_rfl) (by kernel_rfl)) ?_
  intro W base args ds gs before hval0 hW hcnd _
  have hval : ∀ (j : Nat) t v, Trym.f5.params[j]? = some t → args[j]? = some v → Value.okWide Trym.prog W .any base t v := hval0
  have hW' := hW
  obtain ⟨p, q, hA0, hV, rfl, hfz, hnd⟩ := hW
  have hA : DataW.TrodAll enc Trym.prog W 0 (fun _ => true) true Trym.f5.params.toList args.toList ds p := hA0
  rw [Trym.params5] at hA hval
  obtain ⟨v0, vs0, d0, ds0, p0, q0, hargs, rfl, rfl, h0, r0⟩ := trodAll_cons hA
  obtain ⟨v1, vs1, d1, ds1, p1, q1, rfl, rfl, rfl, h1, r1⟩ := trodAll_cons r0
  obtain ⟨rfl, rfl, rfl⟩ := trodAll_nil r1
  obtain rfl : args = #[v0, v1] := by cases args; simp_all
  obtain ⟨rfl, rfl⟩ := trodVars_none hV
  obtain ⟨a0, rfl, rfl, rfl, w0⟩ := open_int Trym.underlying3 (hval 0 3 v0 rfl rfl) h0
  obtain ⟨a1, rfl, rfl, rfl, w1⟩ := open_int Trym.underlying3 (hval 1 3 v1 rfl rfl) h1
  clear hA0 hval0
  refine (walk a0 a1 w0 w1 W).mono fun e W' ⟨he, bel⟩ => ?_
  subst he
  exact ⟨_, rfl, _, _, _, [], _, [], hW', trodAll_mk1 (shut_bool Trym.underlying4 _), (trodAll_cons_mk (shut_int Trym.underlying3 w0) (trodAll_cons_mk (shut_int Trym.underlying3 w1) trodAll_mk0)), rfl, bel.frame _, fun h => by cases h⟩

theorem over : Rows.fnValuePeelsOnePointerPerCallRow.holds Trym.pinned (OpenSpec.ofChange Rows.fnValuePeelsOnePointerPerCallSpec) :=
  OpenClaim.holds_of_wide 5 Trym.f5 rfl rfl rfl rfl rfl rfl rfl ⟨rfl, rfl, rfl, rfl, rfl⟩ rfl rfl rfl rfl rfl (by kernel_rfl) Trym.func5 (by kernel_rfl)
    (of_decide_eq_true (by kernel_rfl)) (by unfold Func.isWrapper; first | (rw [if_pos (by decide +kernel)]; kernel_rfl) | (rw [if_neg (by decide +kernel)]; exact ⟨rfl, rfl⟩))
    (fun os started H enc _ => lifted os started H enc)

/-- ████ THE STATEMENT ████ -/
theorem proved : Rows.FnValuePeelsOnePointerPerCallSaid :=
  over
#print axioms proved
end Go.Proofs.Qxb6613075aMods.fnValuePeelsOnePointerPerCall
