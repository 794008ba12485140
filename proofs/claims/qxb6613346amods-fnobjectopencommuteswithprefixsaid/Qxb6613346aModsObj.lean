import Derived.Test.Qxb6613346aModsRows
import Derived.WalkKit
import Derived.ProofKit
import Derived.OpenShut
import Derived.ChangeOld
import Derived.Below
import Derived.WalkSpells
import Derived.WalkLawsBesides
import Derived.Deep.OwnRows
import Derived.Deep.AppendLies
namespace Go.Proofs.Qxb6613346aMods
open Go.ChangeShapes Go.WideShapes Go.ChangeAt Go.RowKit
set_option linter.unusedVariables false

theorem info5 : (Trym.prog.info? 5).map (fun i => (i.zero, i.size, i.bytes)) = some (some (.int .u8 0), 1, 1) := by kernel_rfl

/-- The cells of the first n bytes of h. -/
def row (h : Nat → Int) (n : Nat) : List Value := (List.range n).map fun k => .int .u8 (h k)

theorem row_length (h : Nat → Int) (n : Nat) : (row h n).length = n := by simp [row]
theorem row_succ (h : Nat → Int) (n : Nat) : row h (n + 1) = row h n ++ [.int .u8 (h n)] := by simp [row, List.range_succ]
theorem row_congr {h g : Nat → Int} {n : Nat} (e : ∀ k, k < n → h k = g k) : row h n = row g n := by
  unfold row
  apply List.map_congr_left
  intro k hk
  rw [e k (by simpa using hk)]
theorem row_get (h : Nat → Int) (n k : Nat) (hk : k < n) : (row h n)[k]? = some (.int .u8 (h k)) := by simp [row, hk]

/-- What a slice of bytes holds. -/
def BHolds (w : World) (a : Option Addr) (len : Nat) (g : Nat → Int) : Prop :=
  len = 0 ∨ ∃ B off, a = some ⟨B, off, none⟩ ∧ B < w.heap.size ∧ ∀ k, k < len → w.cell? ⟨B, off + k, none⟩ = some (.int .u8 (g k))

theorem BHolds.below {w w' : World} {a : Option Addr} {len : Nat} {g : Nat → Int} (h : BHolds w a len g) (hb : Below w.heap.size w w') : BHolds w' a len g := by
  rcases h with h | ⟨B, off, ha, hB, hc⟩
  · exact .inl h
  · exact .inr ⟨B, off, ha, Nat.lt_of_lt_of_le hB hb.size, fun k hk => (hb.cell (by exact hB)).trans (hc k hk)⟩

theorem owns_of_rowIs {w : World} {b n base : Nat} {h : Nat → Int} (hr : w.rowIs b 5 n (fun q => .int .u8 (h q))) (hb : base ≤ b) (hn : n ≤ maxLen) : w.ownsRow base 5 1 (.slice (some ⟨b, 0, none⟩) n n) n (row h n) := by
  obtain ⟨c, hc, hs, hv⟩ := hr
  refine ⟨by simp [row], .inr ⟨b, n, c, rfl, hb, hc, Nat.le_refl _, hn, by omega, ?_⟩⟩
  apply List.ext_getElem?
  intro i
  rw [List.getElem?_take]
  by_cases hi : i < n
  · rw [if_pos (by omega), row_get h n i hi]
    have := hv i hi
    simpa using this
  · rw [if_neg (by omega), List.getElem?_eq_none (by rw [row_length]; omega)]

/-- Outside block 'OB' and the row 'r' nothing that was there has turned. -/
structure Fr (w w' : World) (OB : Nat) (r : Option Nat) : Prop where
  os : w'.os = w.os
  tape : w'.tape = w.tape
  output : w'.output = w.output
  size : w.heap.size ≤ w'.heap.size
  block : ∀ k, k < w.heap.size → k ≠ OB → some k ≠ r → w'.heap[k]? = w.heap[k]?

theorem Fr.below {w w' : World} {OB B : Nat} {r : Option Nat} (h : Fr w w' OB r) (hB : B ≤ w.heap.size) (hO : B ≤ OB) (hr : ∀ k, r = some k → B ≤ k) : Below B w w' :=
  ⟨h.os, h.tape, h.output, h.size, fun k hk => h.block k (by omega) (by omega) (fun e => by have := hr k e.symm; omega)⟩

/-- An object behind a pointer: block 'OB'; its bytes lie in a row of the call's own; they are the first n of h. -/
structure Ob (w : World) (OB base : Nat) (a : Option Addr) (n cap : Nat) (h : Nat → Int) (m : Bool) : Prop where
  own : w.ownsRow base 5 1 (.slice a n cap) n (row h n)
  lt : OB < w.heap.size
  le : base ≤ OB
  c0 : w.cell? ⟨OB, 0, none⟩ = some (.slice a n cap)
  c1 : w.cell? ⟨OB, 1, none⟩ = some (.bool m)
  f0 : w.frozen? ⟨OB, 0, none⟩ = false
  f1 : w.frozen? ⟨OB, 1, none⟩ = false
  ap : (Value.slice a n cap).ownBlock ≠ some OB

theorem Ob.holds {w : World} {OB base n cap : Nat} {a : Option Addr} {h : Nat → Int} {m : Bool} (o : Ob w OB base a n cap h m) : BHolds w a n h := by
  rcases o.own.2 with ⟨_, h0⟩ | ⟨g, cap', cur, hv, hb, hg, _⟩
  · exact .inl h0
  · have hlt : g < w.heap.size := by
      rcases Nat.lt_or_ge g w.heap.size with hlt | hge
      · exact hlt
      · rw [Array.getElem?_eq_none hge] at hg; cases hg
    have own := o.own
    rw [hv] at own
    cases hv
    refine .inr ⟨g, 0, rfl, hlt, fun k hk => ?_⟩
    rw [Nat.zero_add, own.cellAt k (by omega), row_get h n k hk]

/-- It stands while other blocks turn. -/
theorem Ob.kept {w w' : World} {OB base n cap : Nat} {a : Option Addr} {h : Nat → Int} {m : Bool} (o : Ob w OB base a n cap h m) (hs : w.heap.size ≤ w'.heap.size) (h1 : w'.heap[OB]? = w.heap[OB]?)
    (h2 : ∀ k, (Value.slice a n cap).ownBlock = some k → w'.heap[k]? = w.heap[k]?) : Ob w' OB base a n cap h m := by
  refine ⟨⟨o.own.1, ?_⟩, Nat.lt_of_lt_of_le o.lt hs, o.le, (World.cell?_of_block (a := ⟨OB, 0, none⟩) h1).trans o.c0, (World.cell?_of_block (a := ⟨OB, 1, none⟩) h1).trans o.c1, (World.frozen?_of_block (a := ⟨OB, 0, none⟩) h1).trans o.f0, (World.frozen?_of_block (a := ⟨OB, 1, none⟩) h1).trans o.f1, o.ap⟩
  rcases o.own.2 with h0 | ⟨g, cap', cur, hv, hb, hg, r⟩
  · exact .inl h0
  · exact .inr ⟨g, cap', cur, hv, hb, by rw [h2 g (by rw [hv]; rfl)]; exact hg, r⟩

theorem Ob.below {w w' : World} {OB base n cap : Nat} {a : Option Addr} {h : Nat → Int} {m : Bool} (o : Ob w OB base a n cap h m) (hb : Below w.heap.size w w') : Ob w' OB base a n cap h m :=
  o.kept hb.size (hb.block _ o.lt) (fun k hk => hb.block _ (o.own.lt k hk).2)

def Opened (w w' : World) (OB base : Nat) (a : Option Addr) (n cap : Nat) (h : Nat → Int) : Prop :=
  ∃ g cap', Ob w' OB base (some ⟨g, 0, none⟩) (n + 1) cap' h false ∧ ((Value.slice a n cap).ownBlock = some g ∨ w.heap.size ≤ g) ∧ Fr w w' OB (Value.slice a n cap).ownBlock

theorem opened_mk {w w1 : World} {OB base n cap g cap' : Nat} {a : Option Addr} {h : Nat → Int} {m : Bool} {X : Obj} (o : Ob w OB base a n cap h m)
    (hown : w1.ownsRow base 5 1 (.slice (some ⟨g, 0, none⟩) (n + 1) cap') (n + 1) (row h n ++ [.int .u8 123])) (hgrow : (w.alloc X).grownBy w1 (Value.slice a n cap).ownBlock)
    (hat : (Value.slice a n cap).ownBlock = some g ∨ g = w.heap.size + 1) (h123 : h n = 123) :
    Opened w ((w1.setCell ⟨OB, 0, none⟩ (.slice (some ⟨g, 0, none⟩) (n + 1) cap')).setCell ⟨OB, 1, none⟩ (.bool false)) OB base a n cap h := by
  have hlt := o.lt
  have hgO : g ≠ OB := by
    intro e
    subst e
    rcases hat with h1 | h1
    · exact o.ap h1
    · omega
  have hblk : ∀ k, k < w.heap.size → some k ≠ (Value.slice a n cap).ownBlock → w1.heap[k]? = w.heap[k]? := fun k hk hne =>
    (hgrow.block k (by simp; omega) hne).trans (Below.heap_alloc _ _ _ hk)
  have hO : w1.heap[OB]? = w.heap[OB]? := hblk OB hlt (fun e => o.ap e.symm)
  have c0 : w1.cell? ⟨OB, 0, none⟩ = some (.slice a n cap) := (World.cell?_of_block (a := ⟨OB, 0, none⟩) hO).trans o.c0
  have c1 : w1.cell? ⟨OB, 1, none⟩ = some (.bool m) := (World.cell?_of_block (a := ⟨OB, 1, none⟩) hO).trans o.c1
  have f0 : w1.frozen? ⟨OB, 0, none⟩ = false := (World.frozen?_of_block (a := ⟨OB, 0, none⟩) hO).trans o.f0
  have f1 : w1.frozen? ⟨OB, 1, none⟩ = false := (World.frozen?_of_block (a := ⟨OB, 1, none⟩) hO).trans o.f1
  have ne01 : (⟨OB, 0, none⟩ : Addr) ≠ ⟨OB, 1, none⟩ := by simp
  have ne10 : (⟨OB, 1, none⟩ : Addr) ≠ ⟨OB, 0, none⟩ := by simp
  have hsz := hgrow.size
  simp at hsz
  have hh : ∀ k, k ≠ OB → ((w1.setCell ⟨OB, 0, none⟩ (.slice (some ⟨g, 0, none⟩) (n + 1) cap')).setCell ⟨OB, 1, none⟩ (.bool false)).heap[k]? = w1.heap[k]? := fun k hk =>
    (Below.heap_setCell _ _ _ _ (by exact hk)).trans (Below.heap_setCell _ _ _ _ (by exact hk))
  refine ⟨g, cap', ⟨⟨by rw [row_length]; omega, ?_⟩, by simp [World.setCell]; omega, o.le, ?_, ?_, ?_, ?_, by simpa [Value.ownBlock] using hgO⟩, ?_, ?_⟩
  · rcases hown.2 with ⟨h0, _⟩ | ⟨g', c', cur, hv, hb, hg', r1, r2, r3, r4⟩
    · cases h0
    · cases hv
      exact .inr ⟨g, cap', cur, rfl, hb, by rw [hh g hgO]; exact hg', r1, r2, r3, by rw [r4, row_succ, h123]⟩
  · rw [World.cell?_setCell_other _ _ _ _ ne10, World.cell?_setCell_same _ _ _ c0]
  · rw [World.cell?_setCell_same _ _ _ (u := .bool m)]
    rw [World.cell?_setCell_other _ _ _ _ ne01]; exact c1
  · rw [World.frozen?_setCell, World.frozen?_setCell]; exact f0
  · rw [World.frozen?_setCell, World.frozen?_setCell]; exact f1
  · rcases hat with h1 | h1
    · exact .inl h1
    · exact .inr (by omega)
  · exact ⟨hgrow.os, hgrow.tape, hgrow.output, by simp [World.setCell]; omega, fun k hk hkO hkr => (hh k hkO).trans (hblk k hk hkr)⟩

set_option maxHeartbeats 1000000 in
theorem open_any (OB base : Nat) (a : Option Addr) (n cap : Nat) (h : Nat → Int) (m : Bool) (w : World) (o : Ob w OB base a n cap h m) (hn : n ≤ 1099511627776) (h123 : h n = 123) :
    Calls Trym.prog 12 #[.pointer (some ⟨OB, 0, none⟩)] w fun e w' => e = .returned (.tuple #[]) ∧ Opened w w' OB base a n cap h := by
  obtain ⟨i0, hi, hz0, hz1, hz2⟩ := info_parts info5
  have c0 := o.c0
  have c1 := o.c1
  have f0 := o.f0
  have f1 := o.f1
  have hlt := o.lt
  have hle := o.le
  go_enter Trym.func12, Trym.ntmps12
  go_wp2_with (at_builtin; refine wpList_append_lies _ rfl (.tmp 6) (.tmp 7) 22 rfl base 5 i0 (.int .u8 0) 1 1 Trym.underlying22 hi hz0 hz1 hz2 rfl (by decide) _ n (row h n) rfl (o.own.alloc _) ⟨w.heap.size, 0, none⟩ 1 1 [.int .u8 123] rfl rfl (cell_one_new _ _ _) ?c2 (by omega) ?c3 ?c4 ?c5 (w.heap.size + 1) ?c6 ?_)
  case c2 => intro u hu; simp at hu; subst hu; rfl
  case c3 => unfold maxLen; omega
  case c4 => omega
  case c5 => simp; omega
  case c6 => simp
  intro g cap' w1 hown hgrow hat hg
  have R := opened_mk o hown hgrow hat h123
  have hO : w1.heap[OB]? = w.heap[OB]? := (hgrow.block OB (by simp; omega) (fun e => o.ap e.symm)).trans (Below.heap_alloc _ _ _ hlt)
  have d0 := (World.cell?_of_block (a := ⟨OB, 0, none⟩) hO).trans c0
  have d1 := (World.cell?_of_block (a := ⟨OB, 1, none⟩) hO).trans c1
  have e0 := (World.frozen?_of_block (a := ⟨OB, 0, none⟩) hO).trans f0
  have e1 := (World.frozen?_of_block (a := ⟨OB, 1, none⟩) hO).trans f1
  clear hO hown hgrow hat c0 c1 f0 f1
  go_wp2
  go_end0
  exact ⟨rfl, R⟩

theorem zzopen_any (OB base : Nat) (a : Option Addr) (n cap : Nat) (h : Nat → Int) (m : Bool) (w : World) (o : Ob w OB base a n cap h m) (hn : n ≤ 1099511627776) (h123 : h n = 123) :
    Calls Trym.prog 8 #[.pointer (some ⟨OB, 0, none⟩)] w fun e w' => e = .returned (.tuple #[]) ∧ Opened w w' OB base a n cap h := by
  have h' : Hid (h n = 123) := h123
  clear h123
  go_enter Trym.func8, Trym.ntmps8
  go_wp2_with fail
  refine (open_any OB base a n cap h m w o hn h'.out).mono ?_
  rintro e w' ⟨rfl, R⟩
  go_wp2
  go_end0
  exact ⟨rfl, R⟩

theorem zznew_any (a : Option Addr) (n cap : Nat) (m : Bool) (w : World) :
    Calls Trym.prog 7 #[.slice a n cap, .bool m] w fun e w' => e = .returned (.pointer (some ⟨w.heap.size, 0, none⟩)) ∧ w.alloc (.cells #[.slice a n cap, .bool m, .nilIface] 34) = w' := by
  go_enter Trym.func7, Trym.ntmps7
  go_wp2
  go_ret
  exact ⟨rfl, rfl⟩

theorem zzB_any (OB : Nat) (a : Option Addr) (n cap : Nat) (w : World) (h : w.cell? ⟨OB, 0, none⟩ = some (.slice a n cap)) :
    Calls Trym.prog 9 #[.pointer (some ⟨OB, 0, none⟩)] w fun e w' => e = .returned (.slice a n cap) ∧ w = w' := by
  go_enter Trym.func9, Trym.ntmps9
  go_wp2
  go_ret
  exact ⟨rfl, rfl⟩

theorem zzMore_any (OB : Nat) (m : Bool) (w : World) (h : w.cell? ⟨OB, 1, none⟩ = some (.bool m)) :
    Calls Trym.prog 10 #[.pointer (some ⟨OB, 0, none⟩)] w fun e w' => e = .returned (.bool m) ∧ w = w' := by
  go_enter Trym.func10, Trym.ntmps10
  go_wp2
  go_ret
  exact ⟨rfl, rfl⟩

/-- A new object over bytes that are the call's own. -/
theorem Ob.new {w : World} {base n cap : Nat} {a : Option Addr} {h : Nat → Int} (m : Bool) (own : w.ownsRow base 5 1 (.slice a n cap) n (row h n)) (hb : base ≤ w.heap.size) :
    Ob (w.alloc (.cells #[.slice a n cap, .bool m, .nilIface] 34)) w.heap.size base a n cap h m := by
  refine ⟨own.alloc _, by simp, hb, ?_, ?_, by simp [go_sem], by simp [go_sem], ?_⟩
  · rw [World.cell?_alloc_new]; rfl
  · rw [World.cell?_alloc_new]; rfl
  · intro e
    have := (own.lt _ e).2
    omega

def Cloned (w w' : World) (e : Ending) (len : Nat) (g : Nat → Int) : Prop :=
  ∃ a, e = .returned (.slice a len len) ∧ w'.ownsRow w.heap.size 5 1 (.slice a len len) len (row g len)

set_option maxHeartbeats 1000000 in
theorem clone_any (a : Option Addr) (len cap : Nat) (g : Nat → Int) (w : World) (hlen : len ≤ 1048576) (h : BHolds w a len g) :
    Calls Trym.prog 6 #[.slice a len cap] w fun e w' => Cloned w w' e len g ∧ Below w.heap.size w w' := by
  have hnil := fun w => Lib.run_eql_slice_nil (P := Trym.prog) w 22 5 a len cap 0 0 Trym.underlying22
  have hmk := run_make_row' (P := Trym.prog) 22 5 (.int .u8 0) 1 Trym.underlying22 info5 rfl .i64 .i64 len (by omega) (by omega)
  cases a with
  | none =>
    have h0 : len = 0 := by
      rcases h with h | ⟨B, off, h, _⟩
      · exact h
      · cases h
    subst h0
    go_enter Trym.func6, Trym.ntmps6
    go_wp2
    go_ret
    exact ⟨⟨none, rfl, World.ownsRow_nil _ _ _ _⟩, Below.refl _ _⟩
  | some x =>
    go_enter Trym.func6, Trym.ntmps6
    go_wp2
    go_loopw [4] (fun i wr => ∃ k : Nat, k ≤ len ∧ i = .int .i64 k ∧ wr.rowIs w.heap.size 5 len (fun q => .int .u8 (if q < k then g q else 0)) ∧ Below w.heap.size w wr) (fun i _ => len - (intOf i).toNat)
    case atStart => exact ⟨0, Nat.zero_le _, rfl, (World.rowIs_made w (.int .u8 0) len 5).congr (fun q hq => by simp), (Below.refl _ _).alloc (Nat.le_refl _) _⟩
    case round =>
      obtain ⟨k, hk, rfl, hrow, hbel⟩ := hrel
      by_cases hlt : k < len
      · rcases h with h | ⟨B, off, hx, hB, hc⟩
        · omega
        cases hx
        have hck : wr.cell? ⟨B, off + k, none⟩ = some (.int .u8 (g k)) := (hbel.cell (by exact hB)).trans (hc k hlt)
        have hcn := hrow.cell hlt
        have hfn := hrow.frozen k
        clear hc hnil hmk
        go_wp2
        go_roundw
        case rel =>
          refine ⟨k + 1, by omega, by go_num, (hrow.set k _).congr (fun q hq => ?_), hbel.setCell (by simp) _⟩
          by_cases hq' : q = k
          · subst hq'; simp
          · have : (q < k) = (q < k + 1) := by simp; omega
            simp only [hq', if_false, this]
        case measure => simp [intOf]; omega
      · have hkl : k = len := by omega
        subst hkl
        have hR : wr.rowIs w.heap.size 5 k (fun q => .int .u8 (g q)) := hrow.congr (fun q hq => by simp [hq])
        go_wp2
        go_ret
        exact ⟨⟨_, rfl, owns_of_rowIs hR (Nat.le_refl _) (by unfold maxLen; omega)⟩, hbel⟩
end Go.Proofs.Qxb6613346aMods
