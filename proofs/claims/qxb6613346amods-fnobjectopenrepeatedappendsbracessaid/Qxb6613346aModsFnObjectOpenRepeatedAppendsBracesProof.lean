/- Proof of Rows.FnObjectOpenRepeatedAppendsBracesSaid, on the shell laid with the seat. -/
import Derived.Test.Qxb6613346aModsRows
import Derived.WalkKit
import Derived.ProofKit
import Derived.OpenShut
import Derived.ShutString
import Derived.ChangeOld
import Derived.Below
import Derived.Deep.QuietTactic
import Derived.BigQuiet
import Derived.Test.Qxb6613346aModsObj
namespace Go.Proofs.Qxb6613346aMods.fnObjectOpenRepeatedAppendsBraces
open Go.ChangeShapes Go.WideShapes Go.ChangeAt Go.RowKit
open Go.ChangeMaps (open_string shut_string)
set_option linter.unusedVariables false

theorem own : ownKnob Trym.prog.godebug = none := by kernel_rfl
theorem laidOut : laidOutB Trym.prog = true := by kernel_rfl

/-- What the walk is told of a slice of integers that came in: it is nil; or it leads to a row of 'cap' cells, the numbers 'zs' (the first 'len' are its elements, the rest its spare room), each fitting its kind. -/
def IsRow (k : IntKind) (w : World) (a : Option Addr) (len cap : Nat) (zs : List Int) : Prop :=
  (a = none ∧ len = 0 ∧ cap = 0 ∧ zs = []) ∨
  ∃ x, a = some x ∧ len ≤ cap ∧ cap ≤ maxLen ∧ zs.length = cap ∧ (∀ i, i < zs.length → w.cell? (x.add i) = some (.int k (zs.getD i 0))) ∧ ∀ n ∈ zs, (Lit.int k n).wf = true

theorem IsRow.holds {w : World} {a : Option Addr} {len cap : Nat} {zs : List Int} (h : IsRow .u8 w a len cap zs) : len ≤ maxLen ∧ BHolds w a len (fun k => zs.getD k 0) := by
  rcases h with ⟨_, rfl, _, _⟩ | ⟨x, rfl, hl, hm, hz, hc, _⟩
  · exact ⟨Nat.zero_le _, .inl rfl⟩
  · refine ⟨by omega, ?_⟩
    by_cases h0 : len = 0
    · exact .inl h0
    · obtain ⟨b, off, rfl, hc'⟩ := ints_at hc (by omega)
      have hlt : b < w.heap.size := by
        have := hc' 0 (by omega)
        exact block_lt_of_cell this
      exact .inr ⟨b, off, rfl, hlt, fun k hk => hc' k (by omega)⟩

set_option maxHeartbeats 1000000 in
theorem bytes5 (a : Option Addr) (len cap : Nat) (m : Bool) (n : Int) (w : World) (hlen : len ≤ 9223372036854775807) :
    Calls Trym.prog 5 #[.slice a len cap, .bool m, .int .i64 n] w fun e w' => e = .returned (.bool (decide (len ≤ 1048576))) ∧ w = w' := by
  by_cases h : len ≤ 1048576
  · simp only [h, decide_true]
    go_enter Trym.func5, Trym.ntmps5
    go_wp2
    go_ret
    exact ⟨rfl, rfl⟩
  · simp only [h, decide_false]
    have h' : (1048576 : Int) < len := by omega
    go_enter Trym.func5, Trym.ntmps5
    go_wp2
    go_ret
    exact ⟨rfl, rfl⟩

set_option maxHeartbeats 4000000 in
theorem walk_in (a : Option Addr) (len cap : Nat) (g h : Nat → Int) (m : Bool) (N : Nat) (w : World) (hl : len ≤ 1048576) (hN : N ≤ 65536) (hg : BHolds w a len g)
    (hlo : Hid (∀ i, i < len → h i = g i)) (hhi : Hid (∀ i, len ≤ i → h i = 123)) :
    Calls Trym.prog 3 #[.slice a len cap, .bool m, .int .i64 N] w fun e w' => e = .returned (.bool true) ∧ Below w.heap.size w w' := by
  go_enter Trym.func3, Trym.ntmps3
  go_wp2_with fail
  refine (bytes5 a len cap m N w (by omega)).mono ?_
  rintro e w' ⟨rfl, rfl⟩
  go_wp2_with fail
  refine (clone_any a len cap g w hl hg).mono ?_
  rintro e w1 ⟨⟨a1, rfl, own1⟩, hb1⟩
  go_wp2_with fail
  refine (zznew_any a1 len len m w1).mono ?_
  rintro e w' ⟨rfl, rfl⟩
  have o1 : Ob (w1.alloc (.cells #[.slice a1 len len, .bool m, .nilIface] 34)) w1.heap.size w.heap.size a1 len len h m :=
    Ob.new m (by rw [row_congr hlo.out]; exact own1) hb1.size
  have hb2 : Below w.heap.size w (w1.alloc (.cells #[.slice a1 len len, .bool m, .nilIface] 34)) := hb1.alloc hb1.size _
  have hz1 := hb1.size
  go_wp2
  go_loopw [9] (fun i wr => ∃ (k : Nat) (x : Option Addr) (c : Nat), k ≤ N ∧ i = .int .i64 k ∧ Ob wr w1.heap.size w.heap.size x (len + k) c h (if k = 0 then m else false) ∧ Below w.heap.size w wr) (fun i _ => N - (intOf i).toNat)
  case atStart => exact ⟨0, a1, len, Nat.zero_le _, rfl, o1, hb2⟩
  case round =>
    clear o1 hb2 own1 hb1
    obtain ⟨k, x, c, hk, rfl, o, hbel⟩ := hrel
    by_cases hlt : k < N
    · go_wp2_with fail
      refine (zzopen_any w1.heap.size w.heap.size x (len + k) c h _ wr o (by omega) (hhi.out _ (by omega))).mono ?_
      rintro e w2 ⟨rfl, x', c', o', _, hfr⟩
      have hbel' : Below w.heap.size w w2 := hbel.trans (hfr.below hbel.size hz1 (fun q hq => (o.own.lt q hq).1))
      go_wp2
      go_roundw
      case rel => exact ⟨k + 1, _, c', by omega, by go_num, by simpa [Nat.add_assoc] using o', hbel'⟩
      case measure => simp [intOf]; omega
    · have hkN : k = N := by omega
      subst hkN
      go_wp2_with fail
      refine (zzB_any _ x (len + k) c wr o.c0).mono ?_
      rintro e w' ⟨rfl, rfl⟩
      go_wp2
      rename World => wa
      have hgot := o.holds
      have hb := hg.below hbel
      have hwa := hbel.size
      go_loopw [11] (fun i wr => ∃ (q : Nat), q ≤ len ∧ i = .int .i64 q ∧ Below wa.heap.size wa wr) (fun i _ => len - (intOf i).toNat)
      case atStart => exact ⟨0, Nat.zero_le _, rfl, Below.refl _ _⟩
      case round =>
        obtain ⟨q, hq, rfl, hbq⟩ := hrel
        by_cases hlt2 : q < len
        · rcases hgot with h0 | ⟨G, go, rfl, hG, hGc⟩
          · omega
          rcases hb with h0 | ⟨B, bo, rfl, hB, hBc⟩
          · omega
          have hx1 : wr.cell? ⟨G, go + q, none⟩ = some (.int .u8 (g q)) := by rw [hbq.cell (by exact hG), hGc q (by omega), hlo.out q hlt2]
          have hx2 : wr.cell? ⟨B, bo + q, none⟩ = some (.int .u8 (g q)) := by rw [hbq.cell (by exact hB), hBc q hlt2]
          have i1 : (q : Int) < (len + k : Nat) := by omega
          have i2 : (q : Int) < len := by omega
          clear hGc hBc hg
          go_wp2
          go_quiet (fail)
          go_wp2
          go_roundw
          case rel => exact ⟨q + 1, by omega, by go_num, below_drewN hbq _⟩
          case measure => simp [intOf]; omega
        · have hql : q = len := by omega
          subst hql
          have o2 := o.below hbq
          have hbel2 : Below w.heap.size w wr := hbel.trans (hbq.mono hwa)
          clear o hbel hbq hgot hb hg
          rename World => wb
          have hgot := o2.holds
          have hwb := hbel2.size
          go_wp2
          go_loopw [12] (fun i wr => ∃ (r : Nat), q ≤ r ∧ r ≤ q + k ∧ i = .int .i64 r ∧ Below wb.heap.size wb wr) (fun i _ => q + k - (intOf i).toNat)
          case atStart => exact ⟨q, Nat.le_refl _, Nat.le_add_right _ _, rfl, Below.refl _ _⟩
          case round =>
            obtain ⟨r, hr1, hr2, rfl, hbr⟩ := hrel
            by_cases hlt3 : r < q + k
            · rcases hgot with h0 | ⟨G, go, rfl, hG, hGc⟩
              · omega
              have hx1 : wr.cell? ⟨G, go + r, none⟩ = some (.int .u8 123) := by rw [hbr.cell (by exact hG), hGc r (by omega), hhi.out r hr1]
              have i1 : (r : Int) < (q + k : Nat) := by omega
              clear hGc
              go_wp2
              go_roundw
              case rel => exact ⟨r + 1, by omega, by omega, by go_num, hbr⟩
              case measure => simp [intOf]; omega
            · have o3 := o2.below hbr
              have hbel3 : Below w.heap.size w wr := hbel2.trans (hbr.mono hwb)
              clear hgot o2
              by_cases hk0 : k = 0
              · subst hk0
                go_wp2_with fail
                refine (zzMore_any _ m wr o3.c1).mono ?_
                rintro e w' ⟨rfl, rfl⟩
                cases m
                all_goals
                  go_wp2
                  go_ret
                  exact ⟨rfl, hbel3⟩
              · have hk1 : (0 : Int) < k := by omega
                have hc1 := o3.c1
                rw [if_neg hk0] at hc1
                go_wp2_with fail
                refine (zzMore_any _ false wr hc1).mono ?_
                rintro e w' ⟨rfl, rfl⟩
                go_wp2
                go_ret
                exact ⟨rfl, hbel3⟩

theorem walk_early (a : Option Addr) (len cap : Nat) (m : Bool) (n : Int) (w : World) (hm : len ≤ 9223372036854775807) (h : ¬ len ≤ 1048576 ∨ n < 0 ∨ 65536 < n) :
    Calls Trym.prog 3 #[.slice a len cap, .bool m, .int .i64 n] w fun e w' => e = .returned (.bool true) ∧ Below w.heap.size w w' := by
  by_cases h1 : len ≤ 1048576
  · by_cases h2 : n < 0
    · clear h
      go_enter Trym.func3, Trym.ntmps3
      go_wp2_with (go_at_call 5; refine (bytes5 _ _ _ _ _ _ hm).mono ?_; rintro e w' ⟨rfl, rfl⟩)
      go_ret
      exact ⟨rfl, Below.refl _ _⟩
    · have h3 : 65536 < n := by omega
      clear h
      go_enter Trym.func3, Trym.ntmps3
      go_wp2_with (go_at_call 5; refine (bytes5 _ _ _ _ _ _ hm).mono ?_; rintro e w' ⟨rfl, rfl⟩)
      go_ret
      exact ⟨rfl, Below.refl _ _⟩
  · clear h
    go_enter Trym.func3, Trym.ntmps3
    go_wp2_with (go_at_call 5; refine (bytes5 _ _ _ _ _ _ hm).mono ?_; rintro e w' ⟨rfl, rfl⟩)
    go_ret
    exact ⟨rfl, Below.refl _ _⟩

theorem walk (a0 : Option Addr) (len0 cap0 : Nat) (z0 : List Int) (a1 : Bool) (a2 : Int) (w : World) (w0 : IsRow .u8 w a0 len0 cap0 z0) (w2 : (Lit.int .i64 a2).wf = true) :
    Calls Trym.prog 3 #[.slice a0 len0 cap0, .bool a1, .int .i64 a2] w fun e w' => e = .returned (.bool true) ∧ Below w.heap.size w w' := by
  obtain ⟨hm, hh⟩ := w0.holds
  unfold maxLen at hm
  by_cases h : ¬ len0 ≤ 1048576 ∨ a2 < 0 ∨ 65536 < a2
  · exact walk_early a0 len0 cap0 a1 a2 w (by omega) h
  · obtain ⟨N, rfl⟩ : ∃ N : Nat, a2 = N := ⟨a2.toNat, by omega⟩
    exact walk_in a0 len0 cap0 _ (fun i => if i < len0 then z0.getD i 0 else 123) a1 N w (by omega) (by omega) hh
      (fun i hi => by simp [hi]) (fun i hi => by simp [show ¬ i < len0 by omega])

/-! ### THE ROW's STEP: WRITTEN OUT: LEAVE IT -/
set_option maxRecDepth 100000 in
theorem lifted (os : Os) (started : os.Started) (H : Type) (enc : TypeId × Value → H) :
    ReturnsInHanded {} Trym.checked os 3 .any (Rows.fnObjectOpenRepeatedAppendsBracesSpec.pre6 enc Trym.prog Trym.f3 Rows.fnObjectOpenRepeatedAppendsBracesRow.domain false) (Rows.fnObjectOpenRepeatedAppendsBracesSpec.post enc Trym.prog Trym.f3 false true false false) := by
  refine returnsInHanded_of_change (C := Trym.checked) own started (by kernel_rfl) Trym.func3
    (ChangeSpec.witness6 (enc := enc) (C := Trym.checked) false ⟨#[], #[.slice none 0 0, .bool false, .int .i64 0], []⟩ 8 (by kernel_rfl) (by kernel_rfl) (by kernel_rfl) (by kernel_rfl)) ?_
  intro W base args ds gs before hval0 hW hcnd _
  have hval : ∀ (j : Nat) t v, Trym.f3.params[j]? = some t → args[j]? = some v → Value.okWide Trym.prog W .any base t v := hval0
  have hW' := hW
  obtain ⟨p, q, hA0, hV, rfl, hfz, hnd⟩ := hW
  have hA : DataW.TrodAll enc Trym.prog W 0 (fun _ => true) true Trym.f3.params.toList args.toList ds p := hA0
  rw [Trym.params3] at hA hval
  obtain ⟨v0, vs0, d0, ds0, p0, q0, hargs, rfl, rfl, h0, r0⟩ := trodAll_cons hA
  obtain ⟨v1, vs1, d1, ds1, p1, q1, rfl, rfl, rfl, h1, r1⟩ := trodAll_cons r0
  obtain ⟨v2, vs2, d2, ds2, p2, q2, rfl, rfl, rfl, h2, r2⟩ := trodAll_cons r1
  obtain ⟨rfl, rfl, rfl⟩ := trodAll_nil r2
  obtain rfl : args = #[v0, v1, v2] := by cases args; simp_all
  obtain ⟨rfl, rfl⟩ := trodVars_none hV
  obtain ⟨a0, len0, cap0, rfl⟩ := okWide_slice Trym.underlying22 (hval 0 22 v0 rfl rfl)
  have k0 := h0
  have lt0 : ∀ x ∈ p0, x.block < W.heap.size := by obtain ⟨m, hm⟩ := k0; exact DataW.trod_lt m _ _ _ hm
  obtain ⟨z0, w0⟩ : ∃ zs, IsRow .u8 W a0 len0 cap0 zs := by
    obtain ⟨fuel, hf⟩ := h0
    rcases open_ints Trym.underlying22 Trym.underlying5 (by kernel_rfl) hf with ⟨hcs, _⟩ | ⟨x, l, c, zs, hcs, _, hl, hm, hz, _, hcell, hwz⟩
    · simp [Value.cells] at hcs
      obtain ⟨rfl, rfl, rfl⟩ := hcs
      exact ⟨[], .inl ⟨rfl, rfl, rfl, rfl⟩⟩
    · simp [Value.cells] at hcs
      obtain ⟨rfl, rfl, rfl⟩ := hcs
      exact ⟨zs, .inr ⟨_, rfl, hl, hm, by simpa using hz, hcell, hwz⟩⟩
  obtain ⟨a1, rfl, rfl, rfl⟩ := open_bool Trym.underlying4 (hval 1 4 v1 rfl rfl) h1
  obtain ⟨a2, rfl, rfl, rfl, w2⟩ := open_int Trym.underlying3 (hval 2 3 v2 rfl rfl) h2
  clear hA0 hval0
  refine (walk a0 len0 cap0 z0 a1 a2 W w0 w2).mono fun e W' ⟨he, bel⟩ => ?_
  subst he
  exact ⟨_, rfl, _, _, _, [], _, [], hW', trodAll_mk1 (shut_bool Trym.underlying4 _), (trodAll_cons_mk (Below.trod laidOut (by kernel_rfl) (of_decide_eq_true (by kernel_rfl)) k0 bel lt0) (trodAll_cons_mk (shut_bool Trym.underlying4 _) (trodAll_cons_mk (shut_int Trym.underlying3 w2) trodAll_mk0))), rfl, bel.frame _, fun h => by cases h⟩

theorem over : Rows.fnObjectOpenRepeatedAppendsBracesRow.holds Trym.pinned (OpenSpec.ofChange Rows.fnObjectOpenRepeatedAppendsBracesSpec) :=
  OpenClaim.holds_of_wide 3 Trym.f3 rfl rfl rfl rfl rfl rfl rfl ⟨rfl, rfl, rfl, rfl, rfl⟩ rfl rfl rfl rfl rfl (by kernel_rfl) Trym.func3 (by kernel_rfl)
    (of_decide_eq_true (by kernel_rfl)) (by unfold Func.isWrapper; first | (rw [if_pos (by decide +kernel)]; kernel_rfl) | (rw [if_neg (by decide +kernel)]; exact ⟨rfl, rfl⟩))
    (fun os started H enc _ => lifted os started H enc)

/-- ████ THE STATEMENT ████ -/
theorem proved : Rows.FnObjectOpenRepeatedAppendsBracesSaid := over
#print axioms proved
end Go.Proofs.Qxb6613346aMods.fnObjectOpenRepeatedAppendsBraces
