/- Proof of Rows.FnLoadWithSwapFreeSaid, on the shell laid with the seat. -/
import Derived.Test.Qxb6612780aModsRows
import Derived.WalkKit
import Derived.ProofKit
import Derived.OpenShut
import Derived.ShutString
import Derived.ChangeOld
import Derived.Below
import Derived.Test.Qxb6612780aModsFold
import Derived.Deep.OwnRows
namespace Go.Proofs.Qxb6612780aMods.fnLoadWithSwapFree
open Go.ChangeShapes Go.WideShapes Go.ChangeAt Go.RowKit
open Go.ChangeMaps (open_string shut_string)
set_option linter.unusedVariables false

theorem own : ownKnob Trym.prog.godebug = none := by kernel_rfl
theorem laidOut : laidOutB Trym.prog = true := by kernel_rfl

/-- What the walk is told of a slice of integers that came in: it is nil; or it leads to a row of 'cap' cells, the numbers 'zs'. -/
def IsRow (k : IntKind) (w : World) (a : Option Addr) (len cap : Nat) (zs : List Int) : Prop :=
  (a = none ∧ len = 0 ∧ cap = 0 ∧ zs = []) ∨
  ∃ x, a = some x ∧ len ≤ cap ∧ cap ≤ maxLen ∧ zs.length = cap ∧ (∀ i, i < zs.length → w.cell? (x.add i) = some (.int k (zs.getD i 0))) ∧ ∀ n ∈ zs, (Lit.int k n).wf = true

theorem IsRow.holds {w : World} {a : Option Addr} {len cap : Nat} {zs : List Int} (h : IsRow .i64 w a len cap zs) : len ≤ maxLen ∧ Holds w a len (fun k => zs.getD k 0) := by
  rcases h with ⟨_, rfl, _, _⟩ | ⟨x, rfl, hl, hm, hz, hc, _⟩
  · exact ⟨Nat.zero_le _, .inl rfl⟩
  · refine ⟨by omega, ?_⟩
    by_cases h0 : len = 0
    · exact .inl h0
    · obtain ⟨b, off, rfl, hc'⟩ := ints_at hc (by omega)
      have hlt : b < w.heap.size := by
        have := hc' 0 (by omega)
        exact block_lt_of_cell this
      exact .inr ⟨b, off, rfl, hlt, fun k hk => hc' k (by omega)⟩


theorem info3 : (Trym.prog.info? 3).map (fun i => (i.zero, i.size, i.bytes)) = some (some (.int .i64 0), 1, 8) := by kernel_rfl

set_option maxHeartbeats 1000000 in
theorem bytes9 (x y : Int) (a : Option Addr) (len cap : Nat) (i j : Int) (w : World) (hlen : len ≤ 9223372036854775807) :
    Calls Trym.prog 9 #[.int .i64 x, .int .i64 y, .slice a len cap, .int .i64 i, .int .i64 j] w fun e w' => e = .returned (.bool (decide (len ≤ 1048576))) ∧ w = w' := by
  by_cases h : len ≤ 1048576
  · simp only [h, decide_true]
    go_enter Trym.func9, Trym.ntmps9
    go_wp2
    go_ret
    exact ⟨rfl, rfl⟩
  · simp only [h, decide_false]
    have h' : (1048576 : Int) < len := by omega
    go_enter Trym.func9, Trym.ntmps9
    go_wp2
    go_ret
    exact ⟨rfl, rfl⟩

set_option maxHeartbeats 1000000 in
/-- The ways that end early. -/
theorem walk_early (a0 : Int) (a1 : Int) (a2 : Option Addr) (len2 cap2 : Nat) (a3 a4 : Int) (w : World) (hm : len2 ≤ 9223372036854775807)
    (h : ¬ len2 ≤ 1048576 ∨ ¬ len2 ≤ 131072 ∨ a3 < 0 ∨ (len2 : Int) ≤ a3 ∨ a4 < 0 ∨ (len2 : Int) ≤ a4) :
    Calls Trym.prog 4 #[.int .i64 a0, .int .i64 a1, .slice a2 len2 cap2, .int .i64 a3, .int .i64 a4] w fun e w' => e = .returned (.bool true) ∧ Below w.heap.size w w' := by
  by_cases h1 : len2 ≤ 1048576
  · by_cases h2 : len2 ≤ 131072
    · replace h : a3 < 0 ∨ (len2 : Int) ≤ a3 ∨ a4 < 0 ∨ (len2 : Int) ≤ a4 := by omega
      by_cases i0 : a3 < 0
      · clear h
        go_enter Trym.func4, Trym.ntmps4
        go_wp2_with (go_at_call 9; refine (bytes9 _ _ _ _ _ _ _ _ hm).mono ?_; rintro e w' ⟨rfl, rfl⟩)
        go_ret
        exact ⟨rfl, Below.refl _ _⟩
      · by_cases i1 : (len2 : Int) ≤ a3
        · clear h
          go_enter Trym.func4, Trym.ntmps4
          go_wp2_with (go_at_call 9; refine (bytes9 _ _ _ _ _ _ _ _ hm).mono ?_; rintro e w' ⟨rfl, rfl⟩)
          go_ret
          exact ⟨rfl, Below.refl _ _⟩
        · by_cases j0 : a4 < 0
          · clear h
            go_enter Trym.func4, Trym.ntmps4
            go_wp2_with (go_at_call 9; refine (bytes9 _ _ _ _ _ _ _ _ hm).mono ?_; rintro e w' ⟨rfl, rfl⟩)
            go_ret
            exact ⟨rfl, Below.refl _ _⟩
          · have j1 : (len2 : Int) ≤ a4 := by omega
            clear h
            go_enter Trym.func4, Trym.ntmps4
            go_wp2_with (go_at_call 9; refine (bytes9 _ _ _ _ _ _ _ _ hm).mono ?_; rintro e w' ⟨rfl, rfl⟩)
            go_ret
            exact ⟨rfl, Below.refl _ _⟩
    · have h2' : (131072 : Int) < len2 := by omega
      clear h
      go_enter Trym.func4, Trym.ntmps4
      go_wp2_with (go_at_call 9; refine (bytes9 _ _ _ _ _ _ _ _ hm).mono ?_; rintro e w' ⟨rfl, rfl⟩)
      go_ret
      exact ⟨rfl, Below.refl _ _⟩
  · clear h
    go_enter Trym.func4, Trym.ntmps4
    go_wp2_with (go_at_call 9; refine (bytes9 _ _ _ _ _ _ _ _ hm).mono ?_; rintro e w' ⟨rfl, rfl⟩)
    go_ret
    exact ⟨rfl, Below.refl _ _⟩

set_option maxHeartbeats 2000000 in
theorem walk_in (a0 : Int) (a1 : Int) (B off : Nat) (len2 cap2 : Nat) (g : Nat → Int) (i j : Nat) (w : World) (w0 : (Lit.int .i64 a0).wf = true) (w1 : (Lit.int .i64 a1).wf = true) (hm : len2 ≤ 131072)
    (hB : B < w.heap.size) (hc : ∀ k, k < len2 → w.cell? ⟨B, off + k, none⟩ = some (.int .i64 (g k))) (hi : i < len2) (hj : j < len2) :
    Calls Trym.prog 4 #[.int .i64 a0, .int .i64 a1, .slice (some ⟨B, off, none⟩) len2 cap2, .int .i64 i, .int .i64 j] w fun e w' => e = .returned (.bool true) ∧ Below w.heap.size w w' := by
  have h1 : len2 ≤ 1048576 := by omega
  have hmk := run_make_row' (P := Trym.prog) 22 3 (.int .i64 0) 8 Trym.underlying22 info3 rfl .i64 .i64 len2 (by omega) (by omega)
  go_enter Trym.func4, Trym.ntmps4
  go_wp2_with (go_at_call 9; refine (bytes9 _ _ _ _ _ _ _ _ (by omega)).mono ?_; rintro e w' ⟨rfl, rfl⟩)
  go_loopw [12] (fun q wr => ∃ n : Nat, n ≤ len2 ∧ q = .int .i64 n ∧ wr.rowIs w.heap.size 3 len2 (fun q => .int .i64 (if q < n then g q else 0)) ∧ Below w.heap.size w wr) (fun q _ => len2 - (intOf q).toNat)
  case atStart => 
    refine ⟨0, Nat.zero_le _, rfl, ?_, (Below.refl _ _).alloc (Nat.le_refl _) _⟩
    exact (World.rowIs_made w (.int .i64 0) len2 3).congr (fun q hq => by simp)
  case round =>
    obtain ⟨n, hn, rfl, hrow, hbel⟩ := hrel
    by_cases hlt : n < len2
    · have hck : wr.cell? ⟨B, off + n, none⟩ = some (.int .i64 (g n)) := (hbel.cell (by exact hB)).trans (hc n hlt)
      have hcn := hrow.cell hlt
      have hfn := hrow.frozen n
      go_wp2
      go_roundw
      case rel =>
        refine ⟨n + 1, by omega, by go_num, (hrow.set n _).congr (fun q hq => ?_), hbel.setCell (by simp) _⟩
        by_cases hq' : q = n
        · subst hq'; simp
        · have : (q < n) = (q < n + 1) := by simp; omega
          simp only [hq', if_false, this]
      case measure => simp [intOf]; omega
    · have hnl : n = len2 := by omega
      subst hnl
      have hR : wr.rowIs w.heap.size 3 n (fun q => .int .i64 (g q)) := hrow.congr (fun q hq => by simp [hq])
      have ci := hR.cell hi
      have cj := hR.cell hj
      have fi := hR.frozen i
      have fj := hR.frozen j
      have hR2 := hR.set i (.int .i64 (g j))
      obtain ⟨v, hv⟩ : ∃ v, (wr.setCell ⟨w.heap.size, i, none⟩ (.int .i64 (g j))).cell? ⟨w.heap.size, j, none⟩ = some v := ⟨_, hR2.cell hj⟩
      have fj2 := hR2.frozen j
      have hR3 : ((wr.setCell ⟨w.heap.size, i, none⟩ (.int .i64 (g j))).setCell ⟨w.heap.size, j, none⟩ (.int .i64 (g i))).rowIs w.heap.size 3 n (fun q => .int .i64 (swp g i j q)) :=
        (hR2.set j (.int .i64 (g i))).congr (fun q hq => by unfold swp; split <;> simp_all; split <;> simp_all)
      have hb3 : Below w.heap.size w ((wr.setCell ⟨w.heap.size, i, none⟩ (.int .i64 (g j))).setCell ⟨w.heap.size, j, none⟩ (.int .i64 (g i))) := (hbel.setCell (by simp) _).setCell (by simp) _
      have hold1 : Holds ((wr.setCell ⟨w.heap.size, i, none⟩ (.int .i64 (g j))).setCell ⟨w.heap.size, j, none⟩ (.int .i64 (g i))) (some ⟨B, off, none⟩) n g :=
        (show Holds w (some ⟨B, off, none⟩) n g from .inr ⟨B, off, rfl, hB, hc⟩).below hb3
      have hsz := hR3.lt
      clear hR hR2 hrow hc
      go_wp2_with fail
      refine (fold_any _ _ _ _ _ g _ w0 w1 h1 hold1).mono ?_
      rintro e wf ⟨rfl, hbf⟩
      have hb4 : Below w.heap.size w (wf.alloc (.cells #[.int .i64 (fl a0 n), .int .i64 (fb a1 g n)] 25)) := by
        have := hb3.size
        have := hbf.size
        exact (hb3.trans (hbf.mono (by omega))).alloc (by omega) _
      have hR4 : (wf.alloc (.cells #[.int .i64 (fl a0 n), .int .i64 (fb a1 g n)] 25)).rowIs w.heap.size 3 n (fun q => .int .i64 (swp g i j q)) :=
        (hR3.of_block (hbf.block _ hsz)).alloc _
      have hold2 : Holds (wf.alloc (.cells #[.int .i64 (fl a0 n), .int .i64 (fb a1 g n)] 25)) (some ⟨w.heap.size, 0, none⟩) n (swp g i j) :=
        .inr ⟨w.heap.size, 0, rfl, hR4.lt, fun k hk => by rw [Nat.zero_add]; exact hR4.cell hk⟩
      clear hR3 ci cj fi fj fj2 hv hold1
      go_wp2_with fail
      refine (fold_any _ _ _ _ _ (swp g i j) _ w0 w1 h1 hold2).mono ?_
      rintro e wf2 ⟨rfl, hbf2⟩
      rw [fb_swp a1 g i j n hi hj]
      have T := (Two.new wf (.int .i64 (fl a0 n)) (.int .i64 (fb a1 g n)) 25).below hbf2 (by simp)
      have t0 := T.c0
      have t1 := T.c1
      have e1 : (fl a0 n == wrap64 (a0 + (n : Int))) = true := by simp [fl]
      have hz2 : wf.heap.size < wf2.heap.size := T.lt
      have hb5 : Below w.heap.size w wf2 := hb4.trans (hbf2.mono hb4.size)
      clear hR4 hold2
      go_wp2
      go_ret
      exact ⟨rfl, hb5.alloc (by have := hb5.size; omega) _⟩

theorem walk (a0 : Int) (a1 : Int) (a2 : Option Addr) (len2 cap2 : Nat) (z2 : List Int) (a3 : Int) (a4 : Int) (w : World) (w0 : (Lit.int .i64 a0).wf = true) (w1 : (Lit.int .i64 a1).wf = true) (w2 : IsRow .i64 w a2 len2 cap2 z2) (w3 : (Lit.int .i64 a3).wf = true) (w4 : (Lit.int .i64 a4).wf = true) :
    Calls Trym.prog 4 #[.int .i64 a0, .int .i64 a1, .slice a2 len2 cap2, .int .i64 a3, .int .i64 a4] w fun e w' => e = .returned (.bool true) ∧ Below w.heap.size w w' := by
  obtain ⟨hm, hh⟩ := w2.holds
  unfold maxLen at hm
  by_cases h : ¬ len2 ≤ 1048576 ∨ ¬ len2 ≤ 131072 ∨ a3 < 0 ∨ (len2 : Int) ≤ a3 ∨ a4 < 0 ∨ (len2 : Int) ≤ a4
  · exact walk_early a0 a1 a2 len2 cap2 a3 a4 w (by omega) h
  · rcases hh with hh | ⟨B, off, rfl, hB, hc⟩
    · omega
    · obtain ⟨i, rfl⟩ : ∃ i : Nat, a3 = i := ⟨a3.toNat, by omega⟩
      obtain ⟨j, rfl⟩ : ∃ i : Nat, a4 = i := ⟨a4.toNat, by omega⟩
      exact walk_in a0 a1 B off len2 cap2 _ i j w w0 w1 (by omega) hB hc (by omega) (by omega)

/-! ### THE ROW's STEP: WRITTEN OUT: LEAVE IT -/
set_option maxRecDepth 100000 in
theorem lifted (os : Os) (started : os.Started) (H : Type) (enc : TypeId × Value → H) :
    ReturnsInHanded {} Trym.checked os 4 .any (Rows.fnLoadWithSwapFreeSpec.pre6 enc Trym.prog Trym.f4 Rows.fnLoadWithSwapFreeRow.domain false) (Rows.fnLoadWithSwapFreeSpec.post enc Trym.prog Trym.f4 false true false false) := by
  refine returnsInHanded_of_change (C := Trym.checked) own started (by kernel_rfl) Trym.func4
    (ChangeSpec.witness6 (enc := enc) (C := Trym.checked) false ⟨#[], #[.int .i64 0, .int .i64 0, .slice none 0 0, .int .i64 0, .int .i64 0], []⟩ 8 (by kernel_rfl) (by kernel_rfl) (by kernel_rfl) (by kernel_rfl)) ?_
  intro W base args ds gs before hval0 hW hcnd _
  have hval : ∀ (j : Nat) t v, Trym.f4.params[j]? = some t → args[j]? = some v → Value.okWide Trym.prog W .any base t v := hval0
  have hW' := hW
  obtain ⟨p, q, hA0, hV, rfl, hfz, hnd⟩ := hW
  have hA : DataW.TrodAll enc Trym.prog W 0 (fun _ => true) true Trym.f4.params.toList args.toList ds p := hA0
  rw [Trym.params4] at hA hval
  obtain ⟨v0, vs0, d0, ds0, p0, q0, hargs, rfl, rfl, h0, r0⟩ := trodAll_cons hA
  obtain ⟨v1, vs1, d1, ds1, p1, q1, rfl, rfl, rfl, h1, r1⟩ := trodAll_cons r0
  obtain ⟨v2, vs2, d2, ds2, p2, q2, rfl, rfl, rfl, h2, r2⟩ := trodAll_cons r1
  obtain ⟨v3, vs3, d3, ds3, p3, q3, rfl, rfl, rfl, h3, r3⟩ := trodAll_cons r2
  obtain ⟨v4, vs4, d4, ds4, p4, q4, rfl, rfl, rfl, h4, r4⟩ := trodAll_cons r3
  obtain ⟨rfl, rfl, rfl⟩ := trodAll_nil r4
  obtain rfl : args = #[v0, v1, v2, v3, v4] := by cases args; simp_all
  obtain ⟨rfl, rfl⟩ := trodVars_none hV
  obtain ⟨a0, rfl, rfl, rfl, w0⟩ := open_int Trym.underlying3 (hval 0 3 v0 rfl rfl) h0
  obtain ⟨a1, rfl, rfl, rfl, w1⟩ := open_int Trym.underlying3 (hval 1 3 v1 rfl rfl) h1
  obtain ⟨a2, len2, cap2, rfl⟩ := okWide_slice Trym.underlying22 (hval 2 22 v2 rfl rfl)
  have k2 := h2
  have lt2 : ∀ x ∈ p2, x.block < W.heap.size := by obtain ⟨m, hm⟩ := k2; exact DataW.trod_lt m _ _ _ hm
  obtain ⟨z2, w2⟩ : ∃ zs, IsRow .i64 W a2 len2 cap2 zs := by
    obtain ⟨fuel, hf⟩ := h2
    rcases open_ints Trym.underlying22 Trym.underlying3 (by kernel_rfl) hf with ⟨hcs, _⟩ | ⟨x, l, c, zs, hcs, _, hl, hm, hz, _, hcell, hwz⟩
    · simp [Value.cells] at hcs
      obtain ⟨rfl, rfl, rfl⟩ := hcs
      exact ⟨[], .inl ⟨rfl, rfl, rfl, rfl⟩⟩
    · simp [Value.cells] at hcs
      obtain ⟨rfl, rfl, rfl⟩ := hcs
      exact ⟨zs, .inr ⟨_, rfl, hl, hm, by simpa using hz, hcell, hwz⟩⟩
  obtain ⟨a3, rfl, rfl, rfl, w3⟩ := open_int Trym.underlying3 (hval 3 3 v3 rfl rfl) h3
  obtain ⟨a4, rfl, rfl, rfl, w4⟩ := open_int Trym.underlying3 (hval 4 3 v4 rfl rfl) h4
  clear hA0 hval0
  refine (walk a0 a1 a2 len2 cap2 z2 a3 a4 W w0 w1 w2 w3 w4).mono fun e W' ⟨he, bel⟩ => ?_
  subst he
  exact ⟨_, rfl, _, _, _, [], _, [], hW', trodAll_mk1 (shut_bool Trym.underlying4 _), (trodAll_cons_mk (shut_int Trym.underlying3 w0) (trodAll_cons_mk (shut_int Trym.underlying3 w1) (trodAll_cons_mk (Below.trod laidOut (by kernel_rfl) (of_decide_eq_true (by kernel_rfl)) k2 bel lt2) (trodAll_cons_mk (shut_int Trym.underlying3 w3) (trodAll_cons_mk (shut_int Trym.underlying3 w4) trodAll_mk0))))), rfl, bel.frame _, fun h => by cases h⟩

theorem over : Rows.fnLoadWithSwapFreeRow.holds Trym.pinned (OpenSpec.ofChange Rows.fnLoadWithSwapFreeSpec) :=
  OpenClaim.holds_of_wide 4 Trym.f4 rfl rfl rfl rfl rfl rfl rfl ⟨rfl, rfl, rfl, rfl, rfl⟩ rfl rfl rfl rfl rfl (by kernel_rfl) Trym.func4 (by kernel_rfl)
    (of_decide_eq_true (by kernel_rfl)) (by unfold Func.isWrapper; first | (rw [if_pos (by decide +kernel)]; kernel_rfl) | (rw [if_neg (by decide +kernel)]; exact ⟨rfl, rfl⟩))
    (fun os started H enc _ => lifted os started H enc)

/-- ████ THE STATEMENT ████ -/
theorem proved : Rows.FnLoadWithSwapFreeSaid := over
#print axioms proved
end Go.Proofs.Qxb6612780aMods.fnLoadWithSwapFree
