/- Proof of Rows.FnLoadWithFoldIsCountAndSumSaid, on the shell laid with the seat. -/
import Derived.Test.Qxb6612780aModsRows
import Derived.WalkKit
import Derived.ProofKit
import Derived.OpenShut
import Derived.ShutString
import Derived.ChangeOld
import Derived.Below
import Derived.Test.Qxb6612780aModsFold
namespace Go.Proofs.Qxb6612780aMods.fnLoadWithFoldIsCountAndSum
open Go.ChangeShapes Go.WideShapes Go.ChangeAt Go.RowKit
open Go.ChangeMaps (open_string shut_string)
set_option linter.unusedVariables false

theorem own : ownKnob Trym.prog.godebug = none := by kernel_rfl
theorem laidOut : laidOutB Trym.prog = true := by kernel_rfl

/-- What the walk is told of a slice of integers that came in: it is nil; or it leads to a row of 'cap' cells, the numbers 'zs'. -/
def IsRow (k : IntKind) (w : World) (a : Option Addr) (len cap : Nat) (zs : List Int) : Prop :=
  (a = none ∧ len = 0 ∧ cap = 0 ∧ zs = []) ∨
  ∃ x, a = some x ∧ len ≤ cap ∧ cap ≤ maxLen ∧ zs.length = cap ∧ (∀ i, i < zs.length → w.cell? (x.add i) = some (.int k (zs.getD i 0))) ∧ ∀ n ∈ zs, (Lit.int k n).wf = true

theorem IsRow.holds {w : World} {a : Option Addr} {len cap : Nat} {zs : List Int} (h : IsRow .i64 w a len cap zs) : len ≤ maxLen ∧ Holds w a len (fun k => zs.getD k 0) := by
  rcases h with ⟨_, rfl, _, _⟩ | ⟨x, rfl, hl, hm, hz, hc, _⟩
  · exact ⟨Nat.zero_le _, .inl rfl⟩
  · refine ⟨by omega, ?_⟩
    by_cases h0 : len = 0
    · exact .inl h0
    · obtain ⟨b, off, rfl, hc'⟩ := ints_at hc (by omega)
      have hlt : b < w.heap.size := by
        have := hc' 0 (by omega)
        exact block_lt_of_cell this
      exact .inr ⟨b, off, rfl, hlt, fun k hk => hc' k (by omega)⟩

set_option maxHeartbeats 1000000 in
theorem walk_h (a0 : Int) (a1 : Int) (a2 : Option Addr) (len2 cap2 : Nat) (g : Nat → Int) (w : World) (w0 : (Lit.int .i64 a0).wf = true) (w1 : (Lit.int .i64 a1).wf = true) (hm : len2 ≤ 9223372036854775807) (w2 : Holds w a2 len2 g) :
    Calls Trym.prog 3 #[.int .i64 a0, .int .i64 a1, .slice a2 len2 cap2] w fun e w' => e = .returned (.bool true) ∧ Below w.heap.size w w' := by
  by_cases h1 : len2 ≤ 1048576
  · by_cases h2 : len2 ≤ 131072
    · have hst : Hid (bk a1 g len2 len2 = a1) := bk_start w1 g len2
      go_enter Trym.func3, Trym.ntmps3
      go_wp2_with (first | (go_at_call 7; refine (bytes_any _ _ _ _ _ _ hm).mono ?_; rintro e w' ⟨rfl, rfl⟩) | (go_at_call 8; refine (fold_any _ _ _ _ _ g _ w0 w1 h1 w2).mono ?_; rintro e wf ⟨rfl, hbf⟩))
      go_loop [8, 9] (fun s i => ∃ k : Nat, k ≤ len2 ∧ i = .int .i64 ((k : Int) - 1) ∧ s = .int .i64 (bk a1 g len2 k)) (fun _ i => (intOf i + 1).toNat)
      case atStart => exact ⟨len2, Nat.le_refl _, rfl, by rw [hst.out]⟩
      case round =>
        obtain ⟨k, hk, rfl, rfl⟩ := hrel
        cases k with
        | zero =>
          have e1 : (fl a0 len2 == wrap64 (a0 + (len2 : Int))) = true := by simp [fl]
          have e2 : (fb a1 g len2 == bk a1 g len2 0) = true := by simp [bk_end]
          go_wp2
          go_ret
          exact ⟨rfl, hbf.alloc (by have := hbf.size; omega) _⟩
        | succ k =>
          rcases w2 with h0 | ⟨B, off, rfl, hB, hc⟩
          · omega
          have hck : (wf.alloc (.cells #[.int .i64 (fl a0 len2), .int .i64 (fb a1 g len2)] 25)).cell? ⟨B, off + k, none⟩ = some (.int .i64 (g k)) := by
            rw [World.cell?_alloc_lt _ _ _ (by have := hbf.size; simp; omega)]
            exact (hbf.cell (by exact hB)).trans (hc k (by omega))
          rw [show (((k + 1 : Nat) : Int) - 1) = (k : Int) from by omega]
          have hkl : (k : Int) < len2 := by omega
          clear hc
          go_wp2
          go_round
          case rel => exact ⟨k, by omega, by go_num, by rw [bk_step]⟩
          case measure => simp [intOf]
    · have h2' : (131072 : Int) < len2 := by omega
      go_enter Trym.func3, Trym.ntmps3
      go_wp2_with (go_at_call 7; refine (bytes_any _ _ _ _ _ _ hm).mono ?_; rintro e w' ⟨rfl, rfl⟩)
      go_ret
      exact ⟨rfl, Below.refl _ _⟩
  · go_enter Trym.func3, Trym.ntmps3
    go_wp2_with (go_at_call 7; refine (bytes_any _ _ _ _ _ _ hm).mono ?_; rintro e w' ⟨rfl, rfl⟩)
    go_ret
    exact ⟨rfl, Below.refl _ _⟩

theorem walk (a0 : Int) (a1 : Int) (a2 : Option Addr) (len2 cap2 : Nat) (z2 : List Int) (w : World) (w0 : (Lit.int .i64 a0).wf = true) (w1 : (Lit.int .i64 a1).wf = true) (w2 : IsRow .i64 w a2 len2 cap2 z2) :
    Calls Trym.prog 3 #[.int .i64 a0, .int .i64 a1, .slice a2 len2 cap2] w fun e w' => e = .returned (.bool true) ∧ Below w.heap.size w w' := by
  obtain ⟨hm, hh⟩ := w2.holds
  unfold maxLen at hm
  exact walk_h a0 a1 a2 len2 cap2 _ w w0 w1 (by omega) hh

/-! ### THE ROW's STEP: WRITTEN OUT: LEAVE IT -/
set_option maxRecDepth 100000 in
theorem lifted (os : Os) (started : os.Started) (H : Type) (enc : TypeId × Value → H) :
    ReturnsInHanded {} Trym.checked os 3 .any (Rows.fnLoadWithFoldIsCountAndSumSpec.pre6 enc Trym.prog Trym.f3 Rows.fnLoadWithFoldIsCountAndSumRow.domain false) (Rows.fnLoadWithFoldIsCountAndSumSpec.post enc Trym.prog Trym.f3 false true false false) := by
  refine returnsInHanded_of_change (C := Trym.checked) own started (by kernel_rfl) Trym.func3
    (ChangeSpec.witness6 (enc := enc) (C := Trym.checked) false ⟨#[], #[.int .i64 0, .int .i64 0, .slice none 0 0], []⟩ 8 (by kernel_rfl) (by kernel_rfl) (by kernel_rfl) (by kernel_rfl)) ?_
  intro W base args ds gs before hval0 hW hcnd _
  have hval : ∀ (j : Nat) t v, Trym.f3.params[j]? = some t → args[j]? = some v → Value.okWide Trym.prog W .any base t v := hval0
  have hW' := hW
  obtain ⟨p, q, hA0, hV, rfl, hfz, hnd⟩ := hW
  have hA : DataW.TrodAll enc Trym.prog W 0 (fun _ => true) true Trym.f3.params.toList args.toList ds p := hA0
  rw [Trym.params3] at hA hval
  obtain ⟨v0, vs0, d0, ds0, p0, q0, hargs, rfl, rfl, h0, r0⟩ := trodAll_cons hA
  obtain ⟨v1, vs1, d1, ds1, p1, q1, rfl, rfl, rfl, h1, r1⟩ := trodAll_cons r0
  obtain ⟨v2, vs2, d2, ds2, p2, q2, rfl, rfl, rfl, h2, r2⟩ := trodAll_cons r1
  obtain ⟨rfl, rfl, rfl⟩ := trodAll_nil r2
  obtain rfl : args = #[v0, v1, v2] := by cases args; simp_all
  obtain ⟨rfl, rfl⟩ := trodVars_none hV
  obtain ⟨a0, rfl, rfl, rfl, w0⟩ := open_int Trym.underlying3 (hval 0 3 v0 rfl rfl) h0
  obtain ⟨a1, rfl, rfl, rfl, w1⟩ := open_int Trym.underlying3 (hval 1 3 v1 rfl rfl) h1
  obtain ⟨a2, len2, cap2, rfl⟩ := okWide_slice Trym.underlying22 (hval 2 22 v2 rfl rfl)
  have k2 := h2
  have lt2 : ∀ x ∈ p2, x.block < W.heap.size := by obtain ⟨m, hm⟩ := k2; exact DataW.trod_lt m _ _ _ hm
  obtain ⟨z2, w2⟩ : ∃ zs, IsRow .i64 W a2 len2 cap2 zs := by
    obtain ⟨fuel, hf⟩ := h2
    rcases open_ints Trym.underlying22 Trym.underlying3 (by kernel_rfl) hf with ⟨hcs, _⟩ | ⟨x, l, c, zs, hcs, _, hl, hm, hz, _, hcell, hwz⟩
    · simp [Value.cells] at hcs
      obtain ⟨rfl, rfl, rfl⟩ := hcs
      exact ⟨[], .inl ⟨rfl, rfl, rfl, rfl⟩⟩
    · simp [Value.cells] at hcs
      obtain ⟨rfl, rfl, rfl⟩ := hcs
      exact ⟨zs, .inr ⟨_, rfl, hl, hm, by simpa using hz, hcell, hwz⟩⟩
  clear hA0 hval0
  refine (walk a0 a1 a2 len2 cap2 z2 W w0 w1 w2).mono fun e W' ⟨he, bel⟩ => ?_
  subst he
  exact ⟨_, rfl, _, _, _, [], _, [], hW', trodAll_mk1 (shut_bool Trym.underlying4 _), (trodAll_cons_mk (shut_int Trym.underlying3 w0) (trodAll_cons_mk (shut_int Trym.underlying3 w1) (trodAll_cons_mk (Below.trod laidOut (by kernel_rfl) (of_decide_eq_true (by kernel_rfl)) k2 bel lt2) trodAll_mk0))), rfl, bel.frame _, fun h => by cases h⟩

theorem over : Rows.fnLoadWithFoldIsCountAndSumRow.holds Trym.pinned (OpenSpec.ofChange Rows.fnLoadWithFoldIsCountAndSumSpec) :=
  OpenClaim.holds_of_wide 3 Trym.f3 rfl rfl rfl rfl rfl rfl rfl ⟨rfl, rfl, rfl, rfl, rfl⟩ rfl rfl rfl rfl rfl (by kernel_rfl) Trym.func3 (by kernel_rfl)
    (of_decide_eq_true (by kernel_rfl)) (by unfold Func.isWrapper; first | (rw [if_pos (by decide +kernel)]; kernel_rfl) | (rw [if_neg (by decide +kernel)]; exact ⟨rfl, rfl⟩))
    (fun os started H enc _ => lifted os started H enc)

/-- ████ THE STATEMENT ████ -/
theorem proved : Rows.FnLoadWithFoldIsCountAndSumSaid := over
#print axioms proved
end Go.Proofs.Qxb6612780aMods.fnLoadWithFoldIsCountAndSum
