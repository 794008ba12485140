import Derived.Test.Qxb6613621aModsRead
import Derived.BigRegion
import Derived.Deep.RegionWith
import Derived.Deep.AppendLies
namespace Go.Proofs.Qxb6613621aMods
open Go.ChangeShapes Go.WideShapes Go.ChangeAt Go.RowKit
set_option linter.unusedVariables false

/-- It returned an error, some pointer's. -/
def RetErr (e : Ending) : Prop := ∃ p, e = .returned (.iface 43 (.pointer (some p)))

theorem failure_any (w : World) : Calls Trym.prog 13 #[] w fun e w' => RetErr e ∧ Below w.heap.size w w' := by
  go_enter Trym.func13, Trym.ntmps13
  go_wp2
  go_ret
  exact ⟨⟨_, rfl⟩, (Below.refl _ _).alloc (Nat.le_refl _) _⟩

theorem info36 : (Trym.prog.info? 36).map (fun i => (i.zero, i.size, i.bytes)) = some (some (.agg #[.string ByteArray.empty, .string ByteArray.empty, .bool false, .nilIface]), 4, 56) := by kernel_rfl

/-- The cells that 'make([]Result, n)' lays. -/
def resCells (n : Nat) : Array Value := madeCells #[.string ByteArray.empty, .string ByteArray.empty, .bool false, .nilIface] (n * 4)

theorem make_res (len : Nat) (hl : len ≤ 1048576) (w : World) :
    (Instr.makeSlice 25 (.int .i64 (len : Int)) (.int .i64 (len : Int))).run Trym.prog w = .ok (.slice (some ⟨w.heap.size, 0, none⟩) len len) (w.alloc (.cells (resCells len) 36)) := by
  obtain ⟨i, hi, hzz⟩ := Option.map_eq_some_iff.1 info36
  simp only [Prod.mk.injEq] at hzz
  obtain ⟨hz, hs, hb⟩ := hzz
  have hr := run_make (P := Trym.prog) w 25 36 i _ Trym.underlying25 hi hz .i64 .i64 len len (by omega) (Int.le_refl _) (by rw [hb]; omega) (by omega)
  simp only [Int.toNat_natCast, hs] at hr
  exact hr

/-- Block N has n cells that may be written. -/
structure Room (w : World) (N n : Nat) : Prop where
  lt : N < w.heap.size
  cell : ∀ i, i < n → ∃ v, w.cell? ⟨N, i, none⟩ = some v
  froz : ∀ i, w.frozen? ⟨N, i, none⟩ = false

theorem Room.setCell {w : World} {N n : Nat} (h : Room w N n) (a : Addr) (v : Value) : Room (w.setCell a v) N n := by
  refine ⟨by simpa [World.setCell] using h.lt, fun i hi => ?_, fun i => by rw [World.frozen?_setCell]; exact h.froz i⟩
  obtain ⟨u, hu⟩ := h.cell i hi
  exact cell?_setCell_some hu
theorem Room.below {w w' : World} {N n : Nat} (h : Room w N n) (hb : Below w.heap.size w w') : Room w' N n :=
  ⟨Nat.lt_of_lt_of_le h.lt hb.size, fun i hi => by obtain ⟨v, hv⟩ := h.cell i hi; exact ⟨v, (hb.cell (by exact h.lt)).trans hv⟩, fun i => (hb.frozen (by exact h.lt)).trans (h.froz i)⟩

theorem Room.res (w : World) (len : Nat) : Room (w.alloc (.cells (resCells len) 36)) w.heap.size (len * 4) := by
  refine ⟨by simp, fun i hi => ?_, fun i => by simp [go_sem]⟩
  rw [World.cell?_alloc_new]
  have hs : i < (resCells len).size := by unfold resCells; rw [size_madeCells]; exact hi
  exact ⟨(resCells len)[i], by simp [hs]⟩

/-- The four cells of a result. -/
structure ResAt (w : World) (N o : Nat) (r : Rs) : Prop where
  c0 : w.cell? ⟨N, o, none⟩ = some (.string r.kind)
  c1 : w.cell? ⟨N, o + 1, none⟩ = some (.string r.name)
  c2 : w.cell? ⟨N, o + 2, none⟩ = some (.bool r.pos)
  c3 : w.cell? ⟨N, o + 3, none⟩ = some (errV r.err)

theorem ResAt.below {w w' : World} {B N o : Nat} {r : Rs} (h : ResAt w N o r) (hb : Below B w w') (hB : N < B) : ResAt w' N o r :=
  ⟨(hb.cell (by exact hB)).trans h.c0, (hb.cell (by exact hB)).trans h.c1, (hb.cell (by exact hB)).trans h.c2, (hb.cell (by exact hB)).trans h.c3⟩
theorem ne_off {N p q : Nat} (h : q ≠ p) : (⟨N, p, none⟩ : Addr) ≠ ⟨N, q, none⟩ := fun e => h (congrArg Addr.off e).symm
theorem ResAt.setCell {w : World} {N o p : Nat} {r : Rs} (h : ResAt w N o r) (hp : o + 3 < p) (v : Value) : ResAt (w.setCell ⟨N, p, none⟩ v) N o r :=
  ⟨(World.cell?_setCell_other w ⟨N, p, none⟩ ⟨N, o, none⟩ v (ne_off (by omega))).trans h.c0, (World.cell?_setCell_other w ⟨N, p, none⟩ ⟨N, o + 1, none⟩ v (ne_off (by omega))).trans h.c1,
   (World.cell?_setCell_other w ⟨N, p, none⟩ ⟨N, o + 2, none⟩ v (ne_off (by omega))).trans h.c2, (World.cell?_setCell_other w ⟨N, p, none⟩ ⟨N, o + 3, none⟩ v (ne_off (by omega))).trans h.c3⟩

theorem Room.drew {w : World} {N n : Nat} (h : Room w N n) : Room w.drew N n := ⟨h.lt, h.cell, h.froz⟩
theorem ResAt.drew {w : World} {N o : Nat} {r : Rs} (h : ResAt w N o r) : ResAt w.drew N o r := ⟨h.c0, h.c1, h.c2, h.c3⟩
/-- A struct of four cells stored whole. -/
def put4 (w : World) (N o : Nat) (x0 x1 x2 x3 : Value) : World := (((w.setCell ⟨N, o, none⟩ x0).setCell ⟨N, o + 1, none⟩ x1).setCell ⟨N, o + 2, none⟩ x2).setCell ⟨N, o + 3, none⟩ x3

theorem put4_room {w : World} {N n : Nat} (h : Room w N n) (o : Nat) (x0 x1 x2 x3 : Value) : Room (put4 w N o x0 x1 x2 x3) N n := (((h.setCell _ _).setCell _ _).setCell _ _).setCell _ _
theorem put4_old {w : World} {N o o' : Nat} {r : Rs} (h : ResAt w N o' r) (ho : o' + 3 < o) (x0 x1 x2 x3 : Value) : ResAt (put4 w N o x0 x1 x2 x3) N o' r :=
  (((h.setCell ho x0).setCell (by omega) x1).setCell (by omega) x2).setCell (by omega) x3
theorem put4_below {B : Nat} {a w : World} (h : Below B a w) {N o : Nat} (hN : B ≤ N) (x0 x1 x2 x3 : Value) : Below B a (put4 w N o x0 x1 x2 x3) :=
  (((h.setCell hN x0).setCell hN x1).setCell hN x2).setCell hN x3
theorem put4_at {w : World} {N n o : Nat} (h : Room w N n) (ho : o + 3 < n) (r : Rs) : ResAt (put4 w N o (.string r.kind) (.string r.name) (.bool r.pos) (errV r.err)) N o r := by
  obtain ⟨u0, h0⟩ := h.cell o (by omega)
  obtain ⟨u1, h1⟩ := (h.setCell ⟨N, o, none⟩ (.string r.kind)).cell (o + 1) (by omega)
  obtain ⟨u2, h2⟩ := ((h.setCell ⟨N, o, none⟩ (.string r.kind)).setCell ⟨N, o + 1, none⟩ (.string r.name)).cell (o + 2) (by omega)
  obtain ⟨u3, h3⟩ := (((h.setCell ⟨N, o, none⟩ (.string r.kind)).setCell ⟨N, o + 1, none⟩ (.string r.name)).setCell ⟨N, o + 2, none⟩ (.bool r.pos)).cell (o + 3) (by omega)
  unfold put4
  refine ⟨?_, ?_, ?_, ?_⟩
  · rw [World.cell?_setCell_other _ _ _ _ (ne_off (by omega)), World.cell?_setCell_other _ _ _ _ (ne_off (by omega)), World.cell?_setCell_other _ _ _ _ (ne_off (by omega)), World.cell?_setCell_same _ _ _ h0]
  · rw [World.cell?_setCell_other _ _ _ _ (ne_off (by omega)), World.cell?_setCell_other _ _ _ _ (ne_off (by omega)), World.cell?_setCell_same _ _ _ h1]
  · rw [World.cell?_setCell_other _ _ _ _ (ne_off (by omega)), World.cell?_setCell_same _ _ _ h2]
  · rw [World.cell?_setCell_same _ _ _ h3]
/-- .. and its error set. -/
theorem put4_err {w : World} {N o : Nat} {r : Rs} (h : ResAt w N o r) (p : Addr) : ResAt (w.setCell ⟨N, o + 3, none⟩ (.iface 43 (.pointer (some p)))) N o ⟨r.kind, r.name, r.pos, some p⟩ :=
  ⟨(World.cell?_setCell_other w ⟨N, o + 3, none⟩ ⟨N, o, none⟩ _ (ne_off (by omega))).trans h.c0, (World.cell?_setCell_other w ⟨N, o + 3, none⟩ ⟨N, o + 1, none⟩ _ (ne_off (by omega))).trans h.c1,
   (World.cell?_setCell_other w ⟨N, o + 3, none⟩ ⟨N, o + 2, none⟩ _ (ne_off (by omega))).trans h.c2, World.cell?_setCell_same _ _ _ h.c3⟩

/-- What holds when k results are built. -/
structure BRel (w wr : World) (len k : Nat) (rs : List Rw) (L : List Rs) : Prop where
  rows : L.map toRow = rs.take k
  num : L.length = k
  room : Room wr w.heap.size (len * 4)
  res : ∀ q r, L[q]? = some r → ResAt wr w.heap.size (q * 4) r
  bel : Below w.heap.size w wr

theorem get_snoc {α : Type} {L : List α} {x r : α} {k q : Nat} (hk : L.length = k) (h : (L ++ [x])[q]? = some r) : (q < k ∧ L[q]? = some r) ∨ (q = k ∧ r = x) := by
  by_cases hq : q < k
  · rw [List.getElem?_append_left (by omega)] at h
    exact .inl ⟨hq, h⟩
  · have := (List.getElem?_eq_some_iff.1 h).1
    simp at this
    have hqk : q = k := by omega
    subst hqk
    rw [List.getElem?_append_right (by omega), hk] at h
    simp at h
    exact .inr ⟨rfl, h.symm⟩

theorem BRel.no {w wr : World} {len k : Nat} {rs : List Rw} {L : List Rs} (h : BRel w wr len k rs L) {rk rn : ByteArray} {rp : Bool} (hr : rs[k]? = some ⟨rk, rn, rp, false⟩) (hlt : k < len) :
    BRel w (put4 wr w.heap.size (k * 4) (.string rk) (.string rn) (.bool rp) .nilIface).drew len (k + 1) rs (L ++ [⟨rk, rn, rp, none⟩]) := by
  refine ⟨by rw [List.map_append, h.rows, take_snoc rs k _ hr]; rfl, by simp [h.num], ?_, ?_, (put4_below h.bel (Nat.le_refl _) _ _ _ _).drew⟩
  · exact (put4_room h.room _ _ _ _ _).drew
  · intro q r hq
    rcases get_snoc h.num hq with ⟨hq', hL⟩ | ⟨rfl, rfl⟩
    · exact (put4_old (h.res q r hL) (by omega) _ _ _ _).drew
    · exact (put4_at h.room (by omega) ⟨rk, rn, rp, none⟩).drew

theorem BRel.yes {w wr w5 : World} {len k : Nat} {rs : List Rw} {L : List Rs} {p : Addr} (h : BRel w wr len k rs L) {rk rn : ByteArray} {rp : Bool} (hr : rs[k]? = some ⟨rk, rn, rp, true⟩) (hlt : k < len)
    (hal : Below (put4 wr w.heap.size (k * 4) (.string rk) (.string rn) (.bool rp) .nilIface).drew.heap.size (put4 wr w.heap.size (k * 4) (.string rk) (.string rn) (.bool rp) .nilIface).drew w5) :
    Room w5 w.heap.size (len * 4) ∧ BRel w (w5.setCell ⟨w.heap.size, k * 4 + 3, none⟩ (.iface 43 (.pointer (some p)))) len (k + 1) rs (L ++ [⟨rk, rn, rp, some p⟩]) := by
  have hroom : Room (put4 wr w.heap.size (k * 4) (.string rk) (.string rn) (.bool rp) .nilIface).drew w.heap.size (len * 4) := (put4_room h.room _ _ _ _ _).drew
  have hb4 : Below w.heap.size w (put4 wr w.heap.size (k * 4) (.string rk) (.string rn) (.bool rp) .nilIface).drew := (put4_below h.bel (Nat.le_refl _) _ _ _ _).drew
  refine ⟨hroom.below hal, by rw [List.map_append, h.rows, take_snoc rs k _ hr]; rfl, by simp [h.num], (hroom.below hal).setCell _ _, ?_, (hb4.trans (hal.mono hb4.size)).setCell (Nat.le_refl _) _⟩
  intro q r hq
  rcases get_snoc h.num hq with ⟨hq', hL⟩ | ⟨rfl, rfl⟩
  · have h1 : ResAt (put4 wr w.heap.size (k * 4) (.string rk) (.string rn) (.bool rp) .nilIface).drew w.heap.size (q * 4) r := (put4_old (h.res q r hL) (by omega) _ _ _ _).drew
    exact (h1.below hal hroom.lt).setCell (by omega) _
  · have h1 : ResAt (put4 wr w.heap.size (q * 4) (.string rk) (.string rn) (.bool rp) .nilIface).drew w.heap.size (q * 4) ⟨rk, rn, rp, none⟩ := (put4_at h.room (by omega) ⟨rk, rn, rp, none⟩).drew
    exact put4_err (h1.below hal hroom.lt) p

/-- The results L lie in block N, one behind the other. -/
def ResHolds (w : World) (N : Nat) (L : List Rs) : Prop := N < w.heap.size ∧ ∀ k r, L[k]? = some r → ResAt w N (k * 4) r

def Built (w w' : World) (e : Ending) (len : Nat) (rs : List Rw) : Prop :=
  ∃ L, L.map toRow = rs ∧ e = .returned (.slice (some ⟨w.heap.size, 0, none⟩) len len) ∧ ResHolds w' w.heap.size L

set_option maxHeartbeats 400000 in
theorem build_any (a : Option Addr) (len cap : Nat) (rs : List Rw) (w : World) (hlen : len ≤ 1048576) (h : RHolds w a len rs) :
    Calls Trym.prog 7 #[.slice a len cap] w fun e w' => Built w w' e len rs ∧ Below w.heap.size w w' := by
  have hmk := make_res len hlen
  have hrs := h.1
  go_enter Trym.func7, Trym.ntmps7
  go_wp2
  go_loopw [4] (fun i wr => ∃ (k : Nat) (L : List Rs), k ≤ len ∧ i = .int .i64 k ∧ BRel w wr len k rs L) (fun i _ => len - (intOf i).toNat)
  case atStart => exact ⟨0, [], Nat.zero_le _, rfl, rfl, rfl, Room.res w len, fun q r hq => by simp at hq, (Below.refl _ _).alloc (Nat.le_refl _) _⟩
  case round =>
    clear hmk
    obtain ⟨k, L, hk, rfl, R⟩ := hrel
    have hroom := R.room
    have hbel := R.bel
    by_cases hlt : k < len
    · rcases h.2 with h0 | ⟨B, off, rfl, hB, hc⟩
      · omega
      obtain ⟨r, hr⟩ : ∃ r, rs[k]? = some r := ⟨_, List.getElem?_eq_getElem (by rw [h.1]; exact hlt)⟩
      obtain ⟨c0, c1, c2, c3⟩ := (hc k r hr).below hbel hB
      obtain ⟨v0, hv0⟩ := hroom.cell (k * 4) (by omega)
      obtain ⟨v1, hv1⟩ := hroom.cell (k * 4 + 1) (by omega)
      obtain ⟨v2, hv2⟩ := hroom.cell (k * 4 + 2) (by omega)
      obtain ⟨v3, hv3⟩ := hroom.cell (k * 4 + 3) (by omega)
      have f0 := hroom.froz (k * 4)
      have f1 := hroom.froz (k * 4 + 1)
      have f2 := hroom.froz (k * 4 + 2)
      have f3 := hroom.froz (k * 4 + 3)
      obtain ⟨rk, rn, rp, rf⟩ := r
      simp only at c0 c1 c2 c3
      have hne : B ≠ w.heap.size := by omega
      clear hc
      cases rf with
      | true =>
        go_wp2
        go_region
        go_wp2_with fail
        refine (failure_any _).mono ?_
        rintro e w5 ⟨⟨p, rfl⟩, hb5⟩
        obtain ⟨hroom5, R'⟩ := R.yes (p := p) hr hlt hb5
        clear hb5 hr hv0 hv1 hv2 hv3 f0 f1 f2 f3 hroom
        obtain ⟨v5, hv5⟩ := hroom5.cell (k * 4 + 3) (by omega)
        have f5 := hroom5.froz (k * 4 + 3)
        go_wp2
        go_roundw
        case rel => exact ⟨k + 1, _, by omega, by go_num, R'⟩
        case measure => simp [intOf]; omega
      | false =>
        have R' := R.no hr hlt
        unfold put4 at R'
        clear hr
        go_wp2
        go_region
        go_wp2
        go_roundw
        case rel => exact ⟨k + 1, _, by omega, by go_num, R'⟩
        case measure => simp [intOf]; omega
    · have hkl : rs.take k = rs := List.take_of_length_le (by omega)
      have hkn : k = len := by omega
      subst hkn
      have hL := R.rows
      rw [hkl] at hL
      go_wp2
      go_ret
      exact ⟨⟨L, hL, rfl, hroom.lt, R.res⟩, hbel⟩
end Go.Proofs.Qxb6613621aMods
