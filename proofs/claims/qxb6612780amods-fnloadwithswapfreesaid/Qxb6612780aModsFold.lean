import Derived.Test.Qxb6612780aModsRows
import Derived.Test.Qxb6612780aModsPlain
import Derived.WalkKit
import Derived.ProofKit
import Derived.OpenShut
import Derived.ChangeOld
import Derived.Below
import Derived.Deep.RegionWith
namespace Go.Proofs.Qxb6612780aMods
open Go.ChangeShapes Go.WideShapes Go.ChangeAt Go.RowKit
set_option linter.unusedVariables false

set_option maxHeartbeats 400000 in
theorem with_any (l b s : Int) (w : World) :
    Calls Trym.prog 14 #[.agg #[.int .i64 l, .int .i64 b], .int .i64 s] w fun e w' => e = .returned (.agg #[.int .i64 (wrap64 (l + 1)), .int .i64 (wrap64 (b + s))]) ∧ Below w.heap.size w w' := by
  go_enter Trym.func14, Trym.ntmps14
  go_wp2
  exact bodyPost_ret (v := .agg #[.int .i64 (wrap64 (l + 1)), .int .i64 (wrap64 (b + s))]) (by simp [results, Trym.results14, go_sem]) rfl ⟨rfl, ((Below.refl _ _).alloc (Nat.le_refl _) _).alloc (by simp) _⟩

theorem bcell {W w1 : World} (hb : Below W.heap.size W w1) : (∀ b o, b < W.heap.size → w1.cell? ⟨b, o, none⟩ = W.cell? ⟨b, o, none⟩) ∧ (∀ b o, b < W.heap.size → w1.frozen? ⟨b, o, none⟩ = W.frozen? ⟨b, o, none⟩) :=
  ⟨fun b o h => hb.cell (p := ⟨b, o, none⟩) h, fun b o h => hb.frozen (p := ⟨b, o, none⟩) h⟩

/-- Block 'b' holds a struct of two cells that may be written. -/
structure Two (w : World) (b : Nat) (x y : Value) : Prop where
  lt : b < w.heap.size
  c0 : w.cell? ⟨b, 0, none⟩ = some x
  c1 : w.cell? ⟨b, 1, none⟩ = some y
  f0 : w.frozen? ⟨b, 0, none⟩ = false
  f1 : w.frozen? ⟨b, 1, none⟩ = false

theorem Two.below {w w' : World} {b B : Nat} {x y : Value} (h : Two w b x y) (hb : Below B w w') (hB : b < B) : Two w' b x y :=
  ⟨Nat.lt_of_lt_of_le h.lt hb.size, (hb.cell (by exact hB)).trans h.c0, (hb.cell (by exact hB)).trans h.c1, (hb.frozen (by exact hB)).trans h.f0, (hb.frozen (by exact hB)).trans h.f1⟩
theorem Two.set {w : World} {b : Nat} {x y : Value} (h : Two w b x y) (x' y' : Value) : Two ((w.setCell ⟨b, 0, none⟩ x').setCell ⟨b, 1, none⟩ y') b x' y' := by
  have hne : (⟨b, 0, none⟩ : Addr) ≠ ⟨b, 1, none⟩ := by simp
  have hne' : (⟨b, 1, none⟩ : Addr) ≠ ⟨b, 0, none⟩ := by simp
  refine ⟨by simpa [World.setCell] using h.lt, ?_, ?_, ?_, ?_⟩
  · rw [World.cell?_setCell_other _ _ _ _ hne', World.cell?_setCell_same _ _ _ h.c0]
  · rw [World.cell?_setCell_same _ _ _ (u := y)]; rw [World.cell?_setCell_other _ _ _ _ hne]; exact h.c1
  · rw [World.frozen?_setCell, World.frozen?_setCell]; exact h.f0
  · rw [World.frozen?_setCell, World.frozen?_setCell]; exact h.f1
theorem Two.other {w : World} {b c : Nat} {x y : Value} (h : Two w b x y) (hbc : c ≠ b) (x' y' : Value) : Two ((w.setCell ⟨c, 0, none⟩ x').setCell ⟨c, 1, none⟩ y') b x y := by
  have hne : ∀ i j, (⟨c, i, none⟩ : Addr) ≠ ⟨b, j, none⟩ := fun i j h => hbc (congrArg Addr.block h)
  refine ⟨by simpa [World.setCell] using h.lt, ?_, ?_, ?_, ?_⟩
  · rw [World.cell?_setCell_other _ _ _ _ (hne _ _), World.cell?_setCell_other _ _ _ _ (hne _ _)]; exact h.c0
  · rw [World.cell?_setCell_other _ _ _ _ (hne _ _), World.cell?_setCell_other _ _ _ _ (hne _ _)]; exact h.c1
  · rw [World.frozen?_setCell, World.frozen?_setCell]; exact h.f0
  · rw [World.frozen?_setCell, World.frozen?_setCell]; exact h.f1
theorem Two.new (w : World) (x y : Value) (t : TypeId) : Two (w.alloc (.cells #[x, y] t)) w.heap.size x y := by
  refine ⟨by simp, ?_, ?_, ?_, ?_⟩
  · rw [World.cell?_alloc_new]; rfl
  · rw [World.cell?_alloc_new]; rfl
  · simp [go_sem]
  · simp [go_sem]
theorem Two.alloc {w : World} {b : Nat} {x y : Value} (h : Two w b x y) (o : Obj) : Two (w.alloc o) b x y :=
  h.below ((Below.refl w.heap.size w).alloc (Nat.le_refl _) o) h.lt
theorem Two.drew {w : World} {b : Nat} {x y : Value} (h : Two w b x y) : Two w.drew b x y := ⟨h.lt, h.c0, h.c1, h.f0, h.f1⟩

set_option maxHeartbeats 1000000 in
theorem fold_pos (l b : Int) (B off len cap : Nat) (g : Nat → Int) (w : World) (wl : (Lit.int .i64 l).wf = true) (wb : (Lit.int .i64 b).wf = true)
    (hlen : len ≤ 1048576) (hB : B < w.heap.size) (hcell : ∀ k, k < len → w.cell? ⟨B, off + k, none⟩ = some (.int .i64 (g k))) :
    Calls Trym.prog 8 #[.int .i64 l, .int .i64 b, .slice (some ⟨B, off, none⟩) len cap] w fun e w' => e = .returned (.agg #[.int .i64 (fl l len), .int .i64 (fb b g len)]) ∧ Below w.heap.size w w' := by
  have hl0 : Hid (fl l 0 = l) := fl_zero wl
  have hb0 : Hid (fb b g 0 = b) := fb_zero wb g
  go_enter Trym.func8, Trym.ntmps8
  go_wp2
  go_loopw [8] (fun i wr => ∃ k : Nat, k ≤ len ∧ i = .int .i64 k ∧ Two wr (w.heap.size + 1) (.int .i64 (fl l k)) (.int .i64 (fb b g k)) ∧ Two wr w.heap.size (.int .i64 0) (.int .i64 0) ∧ Below w.heap.size w wr)
    (fun i _ => len - (intOf i).toNat)
  case atStart =>
    refine ⟨0, Nat.zero_le _, rfl, ?_, (Two.new _ _ _ _).alloc _, ((Below.refl _ _).alloc (Nat.le_refl _) _).alloc (by simp) _⟩
    rw [hl0.out, hb0.out]
    exact (by simpa using Two.new (w.alloc (Obj.cells #[Value.int IntKind.i64 0, Value.int IntKind.i64 0] 25)) (.int .i64 l) (.int .i64 b) 25)
  case round =>
    obtain ⟨k, hk, rfl, T1, T0, hbel⟩ := hrel
    have hz0 := T0.lt
    have hz := T1.lt
    have c0 := T1.c0
    have c1 := T1.c1
    have f0 := T1.f0
    have f1 := T1.f1
    have d0 := T0.c0
    have d1 := T0.c1
    have e0 := T0.f0
    have e1 := T0.f1
    have hck : k < len → wr.cell? ⟨B, off + k, none⟩ = some (.int .i64 (g k)) := fun h => (hbel.cell (by exact hB)).trans (hcell k h)
    by_cases hlt : k < len
    · have hck' := hck hlt
      clear hck
      go_wp2
      go_region_with (go_at_call 14; refine (with_any _ _ _ _).mono ?_; rintro e w' ⟨rfl, hb'⟩; have hc : ∀ b o, b < wr.heap.size → w'.cell? ⟨b, o, none⟩ = wr.cell? ⟨b, o, none⟩ := (bcell hb').1; have hf : ∀ b o, b < wr.heap.size → w'.frozen? ⟨b, o, none⟩ = wr.frozen? ⟨b, o, none⟩ := (bcell hb').2)
      all_goals
        clear c0 c1 f0 f1 d0 d1 e0 e1 hc hf
        have hb2 : Below wr.heap.size wr w' := ((Below.refl wr.heap.size wr).drew).trans hb'
        go_wp2
        go_roundw
        case rel =>
          refine ⟨k + 1, by omega, by go_num, ?_, (T0.below hb2 hz0).other (by omega) _ _, ((hbel.trans (hb2.mono (by omega))).setCell (by simp) _).setCell (by simp) _⟩
          rw [fl_succ, fb_succ]
          exact (T1.below hb2 hz).set _ _
        case measure => simp [intOf]; omega
    · have hkl : k = len := by omega
      subst hkl
      go_wp2
      exact bodyPost_ret (v := .agg #[.int .i64 (fl l k), .int .i64 (fb b g k)]) (by simp [results, Trym.results8, go_sem, d0, d1]) rfl ⟨rfl, (hbel.setCell (by simp) _).setCell (by simp) _⟩

set_option maxHeartbeats 1000000 in
theorem fold_zero (l b : Int) (a : Option Addr) (cap : Nat) (g : Nat → Int) (w : World) (wl : (Lit.int .i64 l).wf = true) (wb : (Lit.int .i64 b).wf = true) :
    Calls Trym.prog 8 #[.int .i64 l, .int .i64 b, .slice a 0 cap] w fun e w' => e = .returned (.agg #[.int .i64 (fl l 0), .int .i64 (fb b g 0)]) ∧ Below w.heap.size w w' := by
  rw [fl_zero wl, fb_zero wb g]
  go_enter Trym.func8, Trym.ntmps8
  go_wp2
  refine wp_loop_rounds 1 ?_
  rw [rounds_succ]
  go_wp2
  exact bodyPost_ret (v := .agg #[.int .i64 l, .int .i64 b]) (by simp [results, Trym.results8, go_sem]) rfl ⟨rfl, ((Below.refl _ _).alloc (Nat.le_refl _) _).alloc (by simp) _⟩

/-- What a slice of ints holds: its elements are 'g 0 .. g (len - 1)'. -/
def Holds (w : World) (a : Option Addr) (len : Nat) (g : Nat → Int) : Prop :=
  len = 0 ∨ ∃ B off, a = some ⟨B, off, none⟩ ∧ B < w.heap.size ∧ ∀ k, k < len → w.cell? ⟨B, off + k, none⟩ = some (.int .i64 (g k))

theorem Holds.below {w w' : World} {a : Option Addr} {len : Nat} {g : Nat → Int} (h : Holds w a len g) (hb : Below w.heap.size w w') : Holds w' a len g := by
  rcases h with h | ⟨B, off, ha, hB, hc⟩
  · exact .inl h
  · exact .inr ⟨B, off, ha, Nat.lt_of_lt_of_le hB hb.size, fun k hk => (hb.cell (by exact hB)).trans (hc k hk)⟩

theorem fold_any (l b : Int) (a : Option Addr) (len cap : Nat) (g : Nat → Int) (w : World) (wl : (Lit.int .i64 l).wf = true) (wb : (Lit.int .i64 b).wf = true)
    (hlen : len ≤ 1048576) (h : Holds w a len g) :
    Calls Trym.prog 8 #[.int .i64 l, .int .i64 b, .slice a len cap] w fun e w' => e = .returned (.agg #[.int .i64 (fl l len), .int .i64 (fb b g len)]) ∧ Below w.heap.size w w' := by
  rcases h with rfl | ⟨B, off, rfl, hB, hc⟩
  · exact fold_zero l b a cap g w wl wb
  · exact fold_pos l b B off len cap g w wl wb hlen hB hc

set_option maxHeartbeats 1000000 in
theorem bytes_any (x y : Int) (a : Option Addr) (len cap : Nat) (w : World) (hlen : len ≤ 9223372036854775807) :
    Calls Trym.prog 7 #[.int .i64 x, .int .i64 y, .slice a len cap] w fun e w' => e = .returned (.bool (decide (len ≤ 1048576))) ∧ w' = w := by
  by_cases h : len ≤ 1048576
  · simp only [h, decide_true]
    go_enter Trym.func7, Trym.ntmps7
    go_wp2
    go_ret
    exact ⟨rfl, rfl⟩
  · simp only [h, decide_false]
    have h' : (1048576 : Int) < len := by omega
    go_enter Trym.func7, Trym.ntmps7
    go_wp2
    go_ret
    exact ⟨rfl, rfl⟩
end Go.Proofs.Qxb6612780aMods
