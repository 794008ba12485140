/- Proof of Rows.FnObjectOpenCommutesWithPrefixSaid, on the shell laid with the seat. -/
import Derived.Test.Qxb6613346aModsRows
import Derived.WalkKit
import Derived.ProofKit
import Derived.OpenShut
import Derived.ShutString
import Derived.ChangeOld
import Derived.Below
import Derived.Deep.QuietTactic
import Derived.BigQuiet
import Derived.Deep.Onto
import Derived.Deep.RegionWith
import Derived.Test.Qxb6613346aModsObj
namespace Go.Proofs.Qxb6613346aMods.fnObjectOpenCommutesWithPrefix
open Go.ChangeShapes Go.WideShapes Go.ChangeAt Go.RowKit
open Go.ChangeMaps (open_string shut_string)
set_option linter.unusedVariables false

theorem own : ownKnob Trym.prog.godebug = none := by kernel_rfl
theorem laidOut : laidOutB Trym.prog = true := by kernel_rfl

/-- What the walk is told of a slice of integers that came in: it is nil; or it leads to a row of 'cap' cells, the numbers 'zs' (the first 'len' are its elements, the rest its spare room), each fitting its kind. -/
def IsRow (k : IntKind) (w : World) (a : Option Addr) (len cap : Nat) (zs : List Int) : Prop :=
  (a = none ∧ len = 0 ∧ cap = 0 ∧ zs = []) ∨
  ∃ x, a = some x ∧ len ≤ cap ∧ cap ≤ maxLen ∧ zs.length = cap ∧ (∀ i, i < zs.length → w.cell? (x.add i) = some (.int k (zs.getD i 0))) ∧ ∀ n ∈ zs, (Lit.int k n).wf = true

theorem IsRow.holds {w : World} {a : Option Addr} {len cap : Nat} {zs : List Int} (h : IsRow .u8 w a len cap zs) : len ≤ maxLen ∧ BHolds w a len (fun k => zs.getD k 0) := by
  rcases h with ⟨_, rfl, _, _⟩ | ⟨x, rfl, hl, hm, hz, hc, _⟩
  · exact ⟨Nat.zero_le _, .inl rfl⟩
  · refine ⟨by omega, ?_⟩
    by_cases h0 : len = 0
    · exact .inl h0
    · obtain ⟨b, off, rfl, hc'⟩ := ints_at hc (by omega)
      have hlt : b < w.heap.size := by
        have := hc' 0 (by omega)
        exact block_lt_of_cell this
      exact .inr ⟨b, off, rfl, hlt, fun k hk => hc' k (by omega)⟩

/-- It returned some bool. -/
def RetB (e : Ending) : Prop := ∃ r, e = .returned (.bool r)

set_option maxHeartbeats 1000000 in
theorem bytes11 (a1 : Option Addr) (len1 cap1 : Nat) (a2 : Option Addr) (len2 cap2 : Nat) (m1 m2 : Bool) (w : World) (h1 : len1 ≤ 9223372036854775807) (h2 : len2 ≤ 9223372036854775807) :
    Calls Trym.prog 11 #[.slice a1 len1 cap1, .slice a2 len2 cap2, .bool m1, .bool m2] w fun e w' => RetB e ∧ w = w' := by
  go_enter Trym.func11, Trym.ntmps11
  go_wp2
  all_goals
    go_ret
    exact ⟨⟨_, rfl⟩, rfl⟩

theorem walk_early (a1 : Option Addr) (len1 cap1 : Nat) (a2 : Option Addr) (len2 cap2 : Nat) (m1 m2 : Bool) (w : World) (h1 : len1 ≤ 9223372036854775807) (h2 : len2 ≤ 9223372036854775807) (h : ¬ len1 ≤ 524288 ∨ ¬ len2 ≤ 524288) :
    Calls Trym.prog 4 #[.slice a1 len1 cap1, .slice a2 len2 cap2, .bool m1, .bool m2] w fun e w' => e = .returned (.bool true) ∧ Below w.heap.size w w' := by
  go_enter Trym.func4, Trym.ntmps4
  go_wp2_with fail
  refine (bytes11 a1 len1 cap1 a2 len2 cap2 m1 m2 w h1 h2).mono ?_
  rintro e w' ⟨⟨r, rfl⟩, rfl⟩
  cases r with
  | false =>
    go_wp2
    go_ret
    exact ⟨rfl, Below.refl _ _⟩
  | true =>
    by_cases k1 : len1 ≤ 524288
    · have k2 : (524288 : Int) < len2 := by omega
      clear h
      go_wp2
      go_ret
      exact ⟨rfl, Below.refl _ _⟩
    · have k2 : (524288 : Int) < len1 := by omega
      clear h
      go_wp2
      go_ret
      exact ⟨rfl, Below.refl _ _⟩

/-- The second writer's bytes stand while the first writer is opened. -/
theorem own_second {w1 w3 : World} {O1 : Obj} {B2 base N j : Nat} {x2 : Option Addr} {xs : List Value} (own2 : w1.ownsRow B2 5 1 (.slice x2 j j) j xs) (hN : N < B2) (hb : base ≤ B2)
    (fr1 : Fr (w1.alloc O1) w3 w1.heap.size (some N)) : w3.ownsRow base 5 1 (.slice x2 j j) j xs := by
  refine ⟨own2.1, ?_⟩
  rcases own2.2 with h0 | ⟨g, cap, cur, hv, hg, hh, r⟩
  · exact .inl h0
  · have hlt := (own2.lt g (by rw [hv]; rfl)).2
    refine .inr ⟨g, cap, cur, hv, by omega, ?_, r⟩
    rw [fr1.block g (by simp; omega) (by omega) (by simp; omega), Below.heap_alloc _ _ _ hlt]
    exact hh

/-- The first writer stands while the second is made and opened. -/
theorem ob_first {w1 w3 w5 : World} {O1 O2 : Obj} {B2 base N j n1 c1 G1 : Nat} {x2 : Option Addr} {xs : List Value} {h1 : Nat → Int} {m : Bool} (own2 : w1.ownsRow B2 5 1 (.slice x2 j j) j xs) (hN : N < B2)
    (o1 : Ob w3 w1.heap.size base (some ⟨G1, 0, none⟩) n1 c1 h1 m) (hat : some N = some G1 ∨ (w1.alloc O1).heap.size ≤ G1) (fr2 : Fr (w3.alloc O2) w5 w3.heap.size (Value.slice x2 j j).ownBlock) :
    Ob w5 w1.heap.size base (some ⟨G1, 0, none⟩) n1 c1 h1 m := by
  have hO := o1.lt
  have hk2 : ∀ q, some q = (Value.slice x2 j j).ownBlock → B2 ≤ q ∧ q < w1.heap.size := fun q hq => own2.lt q hq.symm
  have hs := fr2.size
  simp at hs
  refine o1.kept (by omega) ?_ ?_
  · rw [fr2.block _ (by simp; omega) (by omega) (fun e => by have := (hk2 _ e).2; omega), Below.heap_alloc _ _ _ hO]
  · intro q hq
    have hG : q = G1 := by simpa [Value.ownBlock] using hq.symm
    subst hG
    have hGl := (o1.own.lt q hq).2
    rw [fr2.block _ (by simp; omega) (by omega) (fun e => ?_), Below.heap_alloc _ _ _ hGl]
    have := hk2 _ e
    rcases hat with h | h
    · simp at h; omega
    · simp at h; omega

theorem ob_cells {w : World} {OB base n cap G : Nat} {h : Nat → Int} {m : Bool} (o : Ob w OB base (some ⟨G, 0, none⟩) n cap h m) : G < w.heap.size ∧ ∀ k, k < n → w.cell? ⟨G, k, none⟩ = some (.int .u8 (h k)) :=
  ⟨(o.own.lt G rfl).2, fun k hk => by rw [o.own.cellAt k (by omega), row_get h n k hk]⟩

set_option maxHeartbeats 8000000 in
theorem walk_in (a1 : Option Addr) (len1 cap1 : Nat) (a2 : Option Addr) (len2 cap2 : Nat) (g1 g2 h1 h2 : Nat → Int) (m1 m2 : Bool) (w : World) (hl1 : len1 ≤ 524288) (hl2 : len2 ≤ 524288)
    (hg1 : BHolds w a1 len1 g1) (hg2 : BHolds w a2 len2 g2)
    (e1 : Hid (∀ i, i < len1 → h1 i = g1 i)) (e2 : Hid (∀ i, i < len2 → h1 (len1 + i) = g2 i)) (e3 : Hid (h1 (len1 + len2) = 123)) (e4 : Hid (∀ i, i < len2 → h2 i = g2 i)) (e5 : Hid (h2 len2 = 123)) :
    Calls Trym.prog 4 #[.slice a1 len1 cap1, .slice a2 len2 cap2, .bool m1, .bool m2] w fun e w' => e = .returned (.bool true) ∧ Below w.heap.size w w' := by
  have hmk := run_make_row' (P := Trym.prog) 22 5 (.int .u8 0) 1 Trym.underlying22 info5 rfl .i64 .i64 (len1 + len2) (by omega) (by omega)
  rw [Int.natCast_add] at hmk
  go_enter Trym.func4, Trym.ntmps4
  go_wp2_with fail
  refine (bytes11 a1 len1 cap1 a2 len2 cap2 m1 m2 w (by omega) (by omega)).mono ?_
  rintro e w' ⟨⟨r, rfl⟩, rfl⟩
  cases r with
  | false =>
    go_wp2
    go_ret
    exact ⟨rfl, Below.refl _ _⟩
  | true =>
    go_wp2
    go_loopw [10] (fun i wr => ∃ k : Nat, k ≤ len1 ∧ i = .int .i64 k ∧ wr.rowIs w.heap.size 5 (len1 + len2) (fun q => .int .u8 (if q < k then h1 q else 0)) ∧ Below w.heap.size w wr) (fun i _ => len1 - (intOf i).toNat)
    case atStart => exact ⟨0, Nat.zero_le _, rfl, (World.rowIs_made w (.int .u8 0) (len1 + len2) 5).congr (fun q hq => by simp), (Below.refl _ _).alloc (Nat.le_refl _) _⟩
    case round =>
      clear hmk
      obtain ⟨k, hk, rfl, hrow, hbel⟩ := hrel
      by_cases hlt : k < len1
      · rcases hg1 with h | ⟨B, off, hx, hB, hc⟩
        · omega
        cases hx
        have hck : wr.cell? ⟨B, off + k, none⟩ = some (.int .u8 (h1 k)) := by rw [hbel.cell (by exact hB), hc k hlt, e1.out k hlt]
        have hcn := hrow.cell (i := k) (by omega)
        have hfn := hrow.frozen k
        have i1 : (k : Int) < len1 + len2 := by omega
        clear hc
        go_wp2
        go_roundw
        case rel =>
          refine ⟨k + 1, by omega, by go_num, (hrow.set k _).congr (fun q hq => ?_), hbel.setCell (by simp) _⟩
          by_cases hq' : q = k
          · subst hq'; simp
          · have : (q < k) = (q < k + 1) := by simp; omega
            simp only [hq', if_false, this]
        case measure => simp [intOf]; omega
      · have hkl : k = len1 := by omega
        subst hkl
        rename World => wa
        go_wp2
        go_loopw [11] (fun i wr => ∃ j : Nat, j ≤ len2 ∧ i = .int .i64 j ∧ wr.rowIs w.heap.size 5 (k + len2) (fun q => .int .u8 (if q < k + j then h1 q else 0)) ∧ Below w.heap.size w wr) (fun i _ => len2 - (intOf i).toNat)
        case atStart => exact ⟨0, Nat.zero_le _, rfl, hrow, hbel⟩
        case round =>
          clear hrow hbel
          obtain ⟨j, hj, rfl, hrow, hbel⟩ := hrel
          by_cases hlt2 : j < len2
          · rcases hg2 with h | ⟨B, off, hx, hB, hc⟩
            · omega
            cases hx
            have hck : wr.cell? ⟨B, off + j, none⟩ = some (.int .u8 (h1 (k + j))) := by rw [hbel.cell (by exact hB), hc j hlt2, e2.out j hlt2]
            have hcn := hrow.cell (i := k + j) (by omega)
            have hfn := hrow.frozen (k + j)
            have i1 : (k : Int) + j < k + len2 := by omega
            clear hc
            go_wp2
            go_roundw
            case rel =>
              refine ⟨j + 1, by omega, by go_num, (hrow.set (k + j) _).congr (fun q hq => ?_), hbel.setCell (by simp) _⟩
              by_cases hq' : q = k + j
              · subst hq'
                rw [if_pos rfl, if_pos (by omega)]
              · have : (q < k + j) = (q < k + (j + 1)) := by simp; omega
                simp only [hq', if_false, this]
            case measure => simp [intOf]; omega
          · have hjl : j = len2 := by omega
            subst hjl
            have hR : wr.rowIs w.heap.size 5 (k + j) (fun q => .int .u8 (h1 q)) := hrow.congr (fun q hq => by simp [hq])
            rename World => wb
            have hwb := hbel.size
            have hwN := hR.lt
            clear hrow
            go_wp2_with fail
            refine (clone_any a2 j cap2 g2 wb (by omega) (hg2.below hbel)).mono ?_
            rintro e w1 ⟨⟨x2, rfl, own2⟩, hb1⟩
            have hw1 := hb1.size
            have ownJ : w1.ownsRow w.heap.size 5 1 (.slice (some ⟨w.heap.size, 0, none⟩) (k + j) (k + j)) (k + j) (row h1 (k + j)) :=
              owns_of_rowIs (hR.of_block (hb1.block _ hwN)) (Nat.le_refl _) (by unfold maxLen; omega)
            have hB1 : Below w.heap.size w w1 := hbel.trans (hb1.mono hwb)
            clear hR
            go_wp2_with fail
            refine (zznew_any _ (k + j) (k + j) m1 w1).mono ?_
            rintro e w' ⟨rfl, rfl⟩
            have o1 := Ob.new m1 ownJ (by omega)
            go_wp2_with fail
            refine (zzopen_any w1.heap.size w.heap.size _ (k + j) (k + j) h1 m1 _ o1 (by omega) e3.out).mono ?_
            rintro e w3 ⟨rfl, G1, c1, o1', hat1, fr1⟩
            have own2' : w3.ownsRow w.heap.size 5 1 (.slice x2 j j) j (row h2 j) := by
              rw [row_congr e4.out]
              exact own_second own2 hwN hwb fr1
            have hw3 := fr1.size
            simp at hw3
            have hrN : ∀ q, (Value.slice (some ⟨w.heap.size, 0, none⟩) (k + j) (k + j)).ownBlock = some q → w.heap.size ≤ q := fun q hq => by
              have : w.heap.size = q := by simpa [Value.ownBlock] using hq
              omega
            have hB3 : Below w.heap.size w w3 := (hB1.alloc (by omega) _).trans (fr1.below (by simp; omega) (by omega) hrN)
            clear o1 fr1 ownJ
            go_wp2_with fail
            refine (zznew_any x2 j j m2 w3).mono ?_
            rintro e w' ⟨rfl, rfl⟩
            have o2 := Ob.new m2 own2' (by omega)
            have hown2 : ∀ q, (Value.slice x2 j j).ownBlock = some q → w.heap.size ≤ q := fun q hq => (own2'.lt q hq).1
            go_wp2_with fail
            refine (zzopen_any w3.heap.size w.heap.size _ j j h2 m2 _ o2 (by omega) e5.out).mono ?_
            rintro e w5 ⟨rfl, G2, c2, o2', hat2, fr2⟩
            have p1 := ob_first own2 hwN o1' hat1 fr2
            have hB5 : Below w.heap.size w w5 := (hB3.alloc (by omega) _).trans (fr2.below (by simp; omega) (by omega) hown2)
            clear o2 own2 own2' fr2 hat1 hat2 o1' hB3 hB1 hb1 hown2
            go_wp2_with fail
            refine (zzB_any _ _ (k + j + 1) c1 w5 p1.c0).mono ?_
            rintro e w' ⟨rfl, rfl⟩
            go_wp2_with fail
            refine (zzB_any _ _ (j + 1) c2 w5 o2'.c0).mono ?_
            rintro e w' ⟨rfl, rfl⟩
            obtain ⟨hG1, hG1c⟩ := ob_cells p1
            obtain ⟨hG2, hG2c⟩ := ob_cells o2'
            have hcj := hG2c j (by omega)
            rw [e5.out] at hcj
            have hG1h : Hid (∀ q, q < k + j + 1 → w5.cell? ⟨G1, q, none⟩ = some (.int .u8 (h1 q))) := hG1c
            have hG2h : Hid (∀ q, q < j + 1 → w5.cell? ⟨G2, q, none⟩ = some (.int .u8 (h2 q))) := hG2c
            have ij : (j : Int) < j + 1 := by omega
            have q1 := hg1.below hB5
            have q2 := hg2.below hB5
            have hw5 := hB5.size
            clear hg1 hg2 hbel hG1c hG2c
            go_wp2
            clear hcj ij
            go_loopw [17] (fun i wr => ∃ (q : Nat), q ≤ j ∧ i = .int .i64 q ∧ Below w5.heap.size w5 wr) (fun i _ => j - (intOf i).toNat)
            case atStart => exact ⟨0, Nat.zero_le _, rfl, Below.refl _ _⟩
            case round =>
              obtain ⟨q, hq, rfl, hbq⟩ := hrel
              by_cases hlt3 : q < j
              · rcases q2 with h0 | ⟨B, bo, rfl, hB, hBc⟩
                · omega
                have hx1 : wr.cell? ⟨G2, q, none⟩ = some (.int .u8 (g2 q)) := by rw [hbq.cell (by exact hG2), hG2h.out q (by omega), e4.out q hlt3]
                have hx2 : wr.cell? ⟨B, bo + q, none⟩ = some (.int .u8 (g2 q)) := by rw [hbq.cell (by exact hB), hBc q hlt3]
                have i1 : (q : Int) < (j + 1 : Nat) := by omega
                have i2 : (q : Int) < j := by omega
                clear hBc
                go_wp2
                go_quiet (fail)
                go_wp2
                go_roundw
                case rel => exact ⟨q + 1, by omega, by go_num, below_drewN hbq _⟩
                case measure => simp [intOf]; omega
              · clear q2
                rename World => wc
                go_wp2
                go_loopw [18] (fun i wr => ∃ (r : Nat), r ≤ k ∧ i = .int .i64 r ∧ Below w5.heap.size w5 wr) (fun i _ => k - (intOf i).toNat)
                case atStart => exact ⟨0, Nat.zero_le _, rfl, hbq⟩
                case round =>
                  obtain ⟨r, hr, rfl, hbr⟩ := hrel
                  by_cases hlt4 : r < k
                  · rcases q1 with h0 | ⟨B, bo, rfl, hB, hBc⟩
                    · omega
                    have hx1 : wr.cell? ⟨G1, r, none⟩ = some (.int .u8 (g1 r)) := by rw [hbr.cell (by exact hG1), hG1h.out r (by omega), e1.out r hlt4]
                    have hx2 : wr.cell? ⟨B, bo + r, none⟩ = some (.int .u8 (g1 r)) := by rw [hbr.cell (by exact hB), hBc r hlt4]
                    have i1 : (r : Int) < (k + j + 1 : Nat) := by omega
                    have i2 : (r : Int) < k := by omega
                    clear hBc
                    go_wp2
                    go_quiet (fail)
                    go_wp2
                    go_roundw
                    case rel => exact ⟨r + 1, by omega, by go_num, below_drewN hbr _⟩
                    case measure => simp [intOf]; omega
                  · clear q1
                    rename World => wd
                    go_wp2
                    go_loopw [19] (fun i wr => ∃ (t : Nat), t ≤ j + 1 ∧ i = .int .i64 t ∧ Below w5.heap.size w5 wr) (fun i _ => j + 1 - (intOf i).toNat)
                    case atStart => exact ⟨0, Nat.zero_le _, rfl, hbr⟩
                    case round =>
                      obtain ⟨t, ht, rfl, hbt⟩ := hrel
                      by_cases hlt5 : t < j + 1
                      · have h12 : h1 (k + t) = h2 t := by
                          by_cases htj : t < j
                          · rw [e2.out t htj, e4.out t htj]
                          · have htj' : t = j := by omega
                            subst htj'
                            rw [e3.out, e5.out]
                        have hx1 : wr.cell? ⟨G1, k + t, none⟩ = some (.int .u8 (h2 t)) := by rw [hbt.cell (by exact hG1), hG1h.out (k + t) (by omega), h12]
                        have hx2 : wr.cell? ⟨G2, t, none⟩ = some (.int .u8 (h2 t)) := by rw [hbt.cell (by exact hG2), hG2h.out t (by omega)]
                        have i1 : (k : Int) + t < (k + j + 1 : Nat) := by omega
                        have i2 : (t : Int) < (j + 1 : Nat) := by omega
                        have i3 : (t : Int) < j + 1 := by omega
                        clear h12
                        go_wp2
                        go_quiet (fail)
                        go_wp2
                        go_roundw
                        case rel => exact ⟨t + 1, by omega, by go_num, below_drewN hbt _⟩
                        case measure => simp [intOf]; omega
                      · have s1 := p1.below hbt
                        have s2 := o2'.below hbt
                        have hB6 : Below w.heap.size w wr := hB5.trans (hbt.mono hw5)
                        clear p1 o2'
                        go_wp2_with (first | (go_at_call_of 10 (Value.pointer (some (Addr.mk w1.heap.size 0 none))); refine (zzMore_any _ false _ s1.c1).mono ?_; rintro e w' ⟨rfl, rfl⟩) | (go_at_call_of 10 (Value.pointer (some (Addr.mk w3.heap.size 0 none))); refine (zzMore_any _ false _ s2.c1).mono ?_; rintro e w' ⟨rfl, rfl⟩))
                        go_ret
                        exact ⟨rfl, hB6⟩

theorem walk (a0 : Option Addr) (len0 cap0 : Nat) (z0 : List Int) (a1 : Option Addr) (len1 cap1 : Nat) (z1 : List Int) (a2 : Bool) (a3 : Bool) (w : World) (w0 : IsRow .u8 w a0 len0 cap0 z0) (w1 : IsRow .u8 w a1 len1 cap1 z1) :
    Calls Trym.prog 4 #[.slice a0 len0 cap0, .slice a1 len1 cap1, .bool a2, .bool a3] w fun e w' => e = .returned (.bool true) ∧ Below w.heap.size w w' := by
  obtain ⟨hm0, hh0⟩ := w0.holds
  obtain ⟨hm1, hh1⟩ := w1.holds
  unfold maxLen at hm0 hm1
  by_cases h : ¬ len0 ≤ 524288 ∨ ¬ len1 ≤ 524288
  · exact walk_early a0 len0 cap0 a1 len1 cap1 a2 a3 w (by omega) (by omega) h
  · exact walk_in a0 len0 cap0 a1 len1 cap1 _ _ (fun i => if i < len0 then z0.getD i 0 else if i < len0 + len1 then z1.getD (i - len0) 0 else 123) (fun i => if i < len1 then z1.getD i 0 else 123) a2 a3 w (by omega) (by omega) hh0 hh1
      (fun i hi => by simp [hi]) (fun i hi => by simp [hi, show ¬ len0 + i < len0 by omega]) (show _ = _ by simp [show ¬ len0 + len1 < len0 by omega]) (fun i hi => by simp [hi]) (by simp [Hid])

/-! ### THE ROW's STEP: WRITTEN OUT: LEAVE IT -/
set_option maxRecDepth 100000 in
theorem lifted (os : Os) (started : os.Started) (H : Type) (enc : TypeId × Value → H) :
    ReturnsInHanded {} Trym.checked os 4 .any (Rows.fnObjectOpenCommutesWithPrefixSpec.pre6 enc Trym.prog Trym.f4 Rows.fnObjectOpenCommutesWithPrefixRow.domain false) (Rows.fnObjectOpenCommutesWithPrefixSpec.post enc Trym.prog Trym.f4 false true false false) := by
  refine returnsInHanded_of_change (C := Trym.checked) own started (by kernel_rfl) Trym.func4
    (ChangeSpec.witness6 (enc := enc) (C := Trym.checked) false ⟨#[], #[.slice none 0 0, .slice none 0 0, .bool false, .bool false], []⟩ 8 (by kernel_rfl) (by kernel_rfl) (by kernel_rfl) (by kernel_rfl)) ?_
  intro W base args ds gs before hval0 hW hcnd _
  have hval : ∀ (j : Nat) t v, Trym.f4.params[j]? = some t → args[j]? = some v → Value.okWide Trym.prog W .any base t v := hval0
  have hW' := hW
  obtain ⟨p, q, hA0, hV, rfl, hfz, hnd⟩ := hW
  have hA : DataW.TrodAll enc Trym.prog W 0 (fun _ => true) true Trym.f4.params.toList args.toList ds p := hA0
  rw [Trym.params4] at hA hval
  obtain ⟨v0, vs0, d0, ds0, p0, q0, hargs, rfl, rfl, h0, r0⟩ := trodAll_cons hA
  obtain ⟨v1, vs1, d1, ds1, p1, q1, rfl, rfl, rfl, h1, r1⟩ := trodAll_cons r0
  obtain ⟨v2, vs2, d2, ds2, p2, q2, rfl, rfl, rfl, h2, r2⟩ := trodAll_cons r1
  obtain ⟨v3, vs3, d3, ds3, p3, q3, rfl, rfl, rfl, h3, r3⟩ := trodAll_cons r2
  obtain ⟨rfl, rfl, rfl⟩ := trodAll_nil r3
  obtain rfl : args = #[v0, v1, v2, v3] := by cases args; simp_all
  obtain ⟨rfl, rfl⟩ := trodVars_none hV
  obtain ⟨a0, len0, cap0, rfl⟩ := okWide_slice Trym.underlying22 (hval 0 22 v0 rfl rfl)
  have k0 := h0
  have lt0 : ∀ x ∈ p0, x.block < W.heap.size := by obtain ⟨m, hm⟩ := k0; exact DataW.trod_lt m _ _ _ hm
  obtain ⟨z0, w0⟩ : ∃ zs, IsRow .u8 W a0 len0 cap0 zs := by
    obtain ⟨fuel, hf⟩ := h0
    rcases open_ints Trym.underlying22 Trym.underlying5 (by kernel_rfl) hf with ⟨hcs, _⟩ | ⟨x, l, c, zs, hcs, _, hl, hm, hz, _, hcell, hwz⟩
    · simp [Value.cells] at hcs
      obtain ⟨rfl, rfl, rfl⟩ := hcs
      exact ⟨[], .inl ⟨rfl, rfl, rfl, rfl⟩⟩
    · simp [Value.cells] at hcs
      obtain ⟨rfl, rfl, rfl⟩ := hcs
      exact ⟨zs, .inr ⟨_, rfl, hl, hm, by simpa using hz, hcell, hwz⟩⟩
  obtain ⟨a1, len1, cap1, rfl⟩ := okWide_slice Trym.underlying22 (hval 1 22 v1 rfl rfl)
  have k1 := h1
  have lt1 : ∀ x ∈ p1, x.block < W.heap.size := by obtain ⟨m, hm⟩ := k1; exact DataW.trod_lt m _ _ _ hm
  obtain ⟨z1, w1⟩ : ∃ zs, IsRow .u8 W a1 len1 cap1 zs := by
    obtain ⟨fuel, hf⟩ := h1
    rcases open_ints Trym.underlying22 Trym.underlying5 (by kernel_rfl) hf with ⟨hcs, _⟩ | ⟨x, l, c, zs, hcs, _, hl, hm, hz, _, hcell, hwz⟩
    · simp [Value.cells] at hcs
      obtain ⟨rfl, rfl, rfl⟩ := hcs
      exact ⟨[], .inl ⟨rfl, rfl, rfl, rfl⟩⟩
    · simp [Value.cells] at hcs
      obtain ⟨rfl, rfl, rfl⟩ := hcs
      exact ⟨zs, .inr ⟨_, rfl, hl, hm, by simpa using hz, hcell, hwz⟩⟩
  obtain ⟨a2, rfl, rfl, rfl⟩ := open_bool Trym.underlying4 (hval 2 4 v2 rfl rfl) h2
  obtain ⟨a3, rfl, rfl, rfl⟩ := open_bool Trym.underlying4 (hval 3 4 v3 rfl rfl) h3
  clear hA0 hval0
  refine (walk a0 len0 cap0 z0 a1 len1 cap1 z1 a2 a3 W w0 w1).mono fun e W' ⟨he, bel⟩ => ?_
  subst he
  exact ⟨_, rfl, _, _, _, [], _, [], hW', trodAll_mk1 (shut_bool Trym.underlying4 _), (trodAll_cons_mk (Below.trod laidOut (by kernel_rfl) (of_decide_eq_true (by kernel_rfl)) k0 bel lt0) (trodAll_cons_mk (Below.trod laidOut (by kernel_rfl) (of_decide_eq_true (by kernel_rfl)) k1 bel lt1) (trodAll_cons_mk (shut_bool Trym.underlying4 _) (trodAll_cons_mk (shut_bool Trym.underlying4 _) trodAll_mk0)))), rfl, bel.frame _, fun h => by cases h⟩

theorem over : Rows.fnObjectOpenCommutesWithPrefixRow.holds Trym.pinned (OpenSpec.ofChange Rows.fnObjectOpenCommutesWithPrefixSpec) :=
  OpenClaim.holds_of_wide 4 Trym.f4 rfl rfl rfl rfl rfl rfl rfl ⟨rfl, rfl, rfl, rfl, rfl⟩ rfl rfl rfl rfl rfl (by kernel_rfl) Trym.func4 (by kernel_rfl)
    (of_decide_eq_true (by kernel_rfl)) (by unfold Func.isWrapper; first | (rw [if_pos (by decide +kernel)]; kernel_rfl) | (rw [if_neg (by decide +kernel)]; exact ⟨rfl, rfl⟩))
    (fun os started H enc _ => lifted os started H enc)

/-- ████ THE STATEMENT ████ -/
theorem proved : Rows.FnObjectOpenCommutesWithPrefixSaid := over
#print axioms proved
end Go.Proofs.Qxb6613346aMods.fnObjectOpenCommutesWithPrefix
