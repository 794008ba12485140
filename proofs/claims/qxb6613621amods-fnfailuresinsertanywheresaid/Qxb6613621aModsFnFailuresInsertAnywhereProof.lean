/- Proof of Rows.FnFailuresInsertAnywhereSaid; the frame after the shell that the kit's tool writes for slices of integers. -/
import Derived.Test.Qxb6613621aModsRows
import Derived.Test.Qxb6613621aModsIns
import Derived.WalkKit
import Derived.ProofKit
import Derived.OpenShut
import Derived.ShutString
import Derived.ChangeOld
import Derived.Below
namespace Go.Proofs.Qxb6613621aMods.fnFailuresInsertAnywhere
open Go.ChangeShapes Go.WideShapes Go.ChangeAt Go.RowKit Go.Joins
open Go.ChangeMaps (open_string shut_string)
set_option linter.unusedVariables false

theorem own : ownKnob Trym.prog.godebug = none := by kernel_rfl
theorem laidOut : laidOutB Trym.prog = true := by kernel_rfl
theorem cells38 : Trym.prog.cellsOf 38 = 4 := by kernel_rfl
theorem cells9 : Trym.prog.cellsOf 9 = 1 := by kernel_rfl
theorem cells4' : Trym.prog.cellsOf 4 = 1 := by kernel_rfl

/-- A slice of rows that came in, opened: its elements are the rows rs. -/
theorem rows_opened {H : Type} {enc : TypeId × Value → H} {W : World} {a : Option Addr} {len cap : Nat} {d : DataW H} {p : List MemPlace}
    (h : DataW.Trod enc Trym.prog W 0 (fun _ => true) true 22 (.slice a len cap) d p) : ∃ rs : List Rw, len ≤ maxLen ∧ len ≤ cap ∧ (a = none → len = 0 ∧ cap = 0) ∧ RHolds W a len rs := by
  obtain ⟨fuel, hf⟩ := h
  rcases Go.Deep.open_slice Trym.underlying22 hf with ⟨hcs, _⟩ | ⟨x, l, c, m, n, D, Pl, hcs, _, hl, hm, hmm, _, hel⟩
  · simp [Value.cells] at hcs
    obtain ⟨rfl, rfl, rfl⟩ := hcs
    exact ⟨[], Nat.zero_le _, Nat.le_refl _, fun _ => ⟨rfl, rfl⟩, rfl, .inl rfl⟩
  · simp [Value.cells] at hcs
    obtain ⟨rfl, rfl, rfl⟩ := hcs
    have hmc : m = cap := by simpa using hmm
    subst hmc
    by_cases h0 : len = 0
    · exact ⟨[], by omega, hl, (fun e => by cases e), by simp [h0], .inl h0⟩
    · have each : ∀ i, i < len → ∃ r : Rw, W.cell? (x.add (i * 4)) = some (.string r.kind) ∧ W.cell? (x.add (i * 4 + 1)) = some (.string r.name) ∧ W.cell? (x.add (i * 4 + 2)) = some (.bool r.pos) ∧ W.cell? (x.add (i * 4 + 3)) = some (.bool r.failed) := by
        intro i hi
        obtain ⟨cs', h1, h2⟩ := hel i (by omega)
        rw [cells38] at h1
        obtain ⟨_, hlen, hcell⟩ := World.cells?_some h1
        obtain ⟨y0, y1, y2, y3, n', _, _, t0, t1, t2, t3⟩ := trod_struct4 Trym.underlying38 h2
        match cs', hlen with
        | [u0, u1, u2, u3], _ =>
          simp [cells9, cells4'] at t0 t1 t2 t3
          obtain ⟨s0, e0, _, _⟩ := DataW.trod_string Trym.underlying9 t0
          obtain ⟨s1, e1, _, _⟩ := DataW.trod_string Trym.underlying9 t1
          obtain ⟨b2, e2, _⟩ := DataW.trod_bool Trym.underlying4 t2
          obtain ⟨b3, e3, _⟩ := DataW.trod_bool Trym.underlying4 t3
          simp at e0 e1 e2 e3
          subst e0 e1 e2 e3
          have q0 := hcell 0 (by omega)
          have q1 := hcell 1 (by omega)
          have q2 := hcell 2 (by omega)
          have q3 := hcell 3 (by omega)
          rw [Go.Deep.add_add] at q0 q1 q2 q3
          exact ⟨⟨s0, s1, b2, b3⟩, by simpa using q0, by simpa using q1, by simpa using q2, by simpa using q3⟩
      obtain ⟨rs, hrl, hrs⟩ := list_of each
      obtain ⟨b, off, spot⟩ := x
      have hs0 : ∃ r, rs[0]? = some r := ⟨_, List.getElem?_eq_getElem (by omega)⟩
      obtain ⟨r0, hr0⟩ := hs0
      have hspot : spot = none := by simpa [Addr.add] using World.cell?_spot (hrs 0 r0 hr0).1
      subst hspot
      have hlt : b < W.heap.size := block_lt_of_cell (hrs 0 r0 hr0).1
      refine ⟨rs, by omega, hl, (fun e => by cases e), hrl, .inr ⟨b, off, rfl, hlt, fun k r hk => ?_⟩⟩
      have := hrs k r hk
      simp only [add_plain] at this
      exact ⟨this.1, this.2.1, this.2.2.1, this.2.2.2⟩

theorem wrap_id (x : Int) (h0 : 0 ≤ x) (h1 : x ≤ 9223372036854775807) : IntKind.i64.wrap x = x := by
  rw [IntKind.wrap_i64]
  omega

theorem rholds_news {w : World} {a : Option Addr} {len : Nat} {rs : List Rw} (h : RHolds w a len rs) : ∀ ad, a = some ad → ∀ j u, (rflat rs)[j]? = some u → w.cell? (ad.add j) = some u := by
  intro ad had j u hj
  have hjl := (List.getElem?_eq_some_iff.1 hj).1
  rw [rflat_length, h.1] at hjl
  rcases h.2 with h0 | ⟨B, off, ha, hB, hc⟩
  · omega
  · subst had
    cases ha
    exact rholds_flat h j u hj
theorem drop_news {w : World} {a : Option Addr} {len cap n : Nat} {rs : List Rw} (h : RHolds w a len rs) (hcap : len ≤ cap) (hn : n ≤ len) :
    ∀ ad, (if cap = n then a else a.map (fun x => x.add (n * 4))) = some ad → ∀ j u, (rflat (rs.drop n))[j]? = some u → w.cell? (ad.add j) = some u := by
  intro ad had j u hj
  have hjl := (List.getElem?_eq_some_iff.1 hj).1
  rw [rflat_length, List.length_drop, h.1] at hjl
  rw [if_neg (by omega)] at had
  rcases h.2 with h0 | ⟨B, off, ha, hB, hc⟩
  · omega
  · subst ha
    simp only [Option.map_some, Option.some.injEq] at had
    subst had
    rw [add_plain]
    exact rholds_flat (h.drop (by omega)) j u hj
theorem drop_none {a : Option Addr} {len cap n : Nat} (hnil : a = none → len = 0 ∧ cap = 0) : (if cap = n then a else a.map (fun x => x.add (n * 4))) = none → len - n = 0 ∧ cap - n = 0 := by
  intro e
  have ha : a = none := by
    by_cases hc : cap = n
    · rw [if_pos hc] at e; exact e
    · rw [if_neg hc] at e; simpa using e
  have := hnil ha
  omega

theorem get_of_map {V : List Rs} {y : Rw} {i : Nat} (h : (V.map toRow)[i]? = some y) : ∃ r, V[i]? = some r ∧ toRow r = y := by
  rw [List.getElem?_map, Option.map_eq_some_iff] at h
  exact h
theorem heads {V W : List Rs} {P Q1 Q2 : List Rw} (hV : V.map toRow = P ++ Q1) (hW : W.map toRow = P ++ Q2) {q : Nat} (hq : q < P.length) : ∃ r s, V[q]? = some r ∧ W[q]? = some s ∧ toRow s = toRow r := by
  obtain ⟨y, hy⟩ : ∃ y, P[q]? = some y := ⟨_, List.getElem?_eq_getElem hq⟩
  obtain ⟨r, hr, e1⟩ := get_of_map (V := V) (y := y) (i := q) (by rw [hV, List.getElem?_append_left hq]; exact hy)
  obtain ⟨t, ht, e2⟩ := get_of_map (V := W) (y := y) (i := q) (by rw [hW, List.getElem?_append_left hq]; exact hy)
  exact ⟨r, t, hr, ht, by rw [e1, e2]⟩
theorem tails {V W : List Rs} {P Q : List Rw} {x : Rw} (hV : V.map toRow = P ++ (x :: Q)) (hW : W.map toRow = P ++ Q) {i : Nat} (h1 : P.length ≤ i) (h2 : i < P.length + Q.length) : ∃ r s, V[i + 1]? = some r ∧ W[i]? = some s ∧ toRow s = toRow r := by
  obtain ⟨y, hy⟩ : ∃ y, Q[i - P.length]? = some y := ⟨_, List.getElem?_eq_getElem (by omega)⟩
  obtain ⟨r, hr, e1⟩ := get_of_map (V := V) (y := y) (i := i + 1) (by
    rw [hV, List.getElem?_append_right (by omega), show i + 1 - P.length = (i - P.length) + 1 from by omega, List.getElem?_cons_succ]; exact hy)
  obtain ⟨t, ht, e2⟩ := get_of_map (V := W) (y := y) (i := i) (by rw [hW, List.getElem?_append_right h1]; exact hy)
  exact ⟨r, t, hr, ht, by rw [e1, e2]⟩
theorem middle {V : List Rs} {P Q : List Rw} {x : Rw} (hV : V.map toRow = P ++ (x :: Q)) : ∃ r, V[P.length]? = some r ∧ toRow r = x :=
  get_of_map (by rw [hV, List.getElem?_append_right (Nat.le_refl _), Nat.sub_self]; rfl)

/-- The four cells of x, boxed. -/
structure XAt (w : World) (B : Nat) (xk xn : ByteArray) (xp xf : Bool) : Prop where
  lt : B < w.heap.size
  c0 : w.cell? ⟨B, 0, none⟩ = some (.string xk)
  c1 : w.cell? ⟨B, 1, none⟩ = some (.string xn)
  c2 : w.cell? ⟨B, 2, none⟩ = some (.bool xp)
  c3 : w.cell? ⟨B, 3, none⟩ = some (.bool xf)
theorem XAt.below {w w' : World} {B : Nat} {xk xn : ByteArray} {xp xf : Bool} (h : XAt w B xk xn xp xf) (hb : Below w.heap.size w w') : XAt w' B xk xn xp xf :=
  ⟨Nat.lt_of_lt_of_le h.lt hb.size, (hb.cell (by exact h.lt)).trans h.c0, (hb.cell (by exact h.lt)).trans h.c1, (hb.cell (by exact h.lt)).trans h.c2, (hb.cell (by exact h.lt)).trans h.c3⟩
theorem XAt.new (w : World) (xk xn : ByteArray) (xp xf : Bool) : XAt (w.alloc (.cells #[.string xk, .string xn, .bool xp, .bool xf] 38)) w.heap.size xk xn xp xf := by
  refine ⟨by simp, ?_, ?_, ?_, ?_⟩ <;> (rw [World.cell?_alloc_new]; rfl)

set_option maxHeartbeats 8000000 in
set_option maxRecDepth 1000000 in
theorem walk_in (a : Option Addr) (len cap : Nat) (rs : List Rw) (n : Nat) (xk xn : ByteArray) (xp xf : Bool) (w : World) (hm : len ≤ 65536) (hcap : len ≤ cap) (hnil : Hid (a = none → len = 0 ∧ cap = 0)) (h : RHolds w a len rs) (hn : n ≤ len) :
    Calls Trym.prog 4 #[.slice a len cap, .int .i64 n, .agg #[.string xk, .string xn, .bool xp, .bool xf]] w fun e w' => e = .returned (.bool true) ∧ Below w.heap.size w w' := by
  have hrs := h.1
  have hmk := make_rows len (by omega)
  go_enter Trym.func4, Trym.ntmps4
  go_wp2_with fail
  have hX0 := XAt.new w xk xn xp xf
  have hb0 : Below w.heap.size w (w.alloc (.cells #[.string xk, .string xn, .bool xp, .bool xf] 38)) := (Below.refl _ _).alloc (Nat.le_refl _) _
  generalize (w.alloc (.cells #[.string xk, .string xn, .bool xp, .bool xf] 38)) = w0 at *
  refine (zzbytes11 a len cap rs n xk xn xp xf w0 (by omega) (h.below hb0)).mono ?_
  rintro e w1 ⟨⟨r, rfl⟩, hb1⟩
  have hz0 := hb0.size
  have hB1 : Below w.heap.size w w1 := hb0.trans (hb1.mono hz0)
  have hX1 := hX0.below hb1
  clear hX0 hb1 hb0
  obtain ⟨hXl, x0, x1, x2, x3⟩ := hX1
  cases r with
  | false =>
    go_wp2
    go_ret
    exact ⟨rfl, hB1⟩
  | true =>
    go_wp2_with fail
    all_goals first | (go_ret; exact ⟨rfl, hB1⟩) | skip
    refine (rowBytes a len cap rs _ w1 hm (h.below hB1)).mono ?_
    rintro e w' ⟨⟨y, rfl⟩, rfl⟩
    by_cases hy : 1048576 < y
    · go_wp2
      go_ret
      exact ⟨rfl, hB1⟩
    have hz1 := hB1.size
    go_wp2_with fail
    refine (build_any a len cap rs w1 (by omega) (h.below hB1)).mono ?_
    rintro e w2 ⟨⟨L2, hL2, rfl, hR2⟩, hb2⟩
    go_wp2_with fail
    refine (failures_rows _ len L2 rs w2 (by omega) hL2 hrs hR2).mono ?_
    rintro e w3 ⟨⟨W, aw, cw, hW, hWe, rfl, hWh⟩, hb3⟩
    have hb13 : Below w1.heap.size w1 w3 := hb2.trans (hb3.mono hb2.size)
    have hB3 : Below w.heap.size w w3 := hB1.trans (hb13.mono hz1)
    have hX3 := (XAt.mk hXl x0 x1 x2 x3).below hb13
    have h3 := h.below hB3
    have hz3 := hB3.size
    clear hR2 hL2 hb2 hb3 hb13 x0 x1 x2 x3 hXl hB1 hz1
    have own3 := own_made w3 (len + 1) w3.heap.size (Nat.le_refl _) (by omega)
    have hb34 : Below w3.heap.size w3 (w3.alloc (.cells (rowCells (len + 1)) 38)) := (Below.refl _ _).alloc (Nat.le_refl _) _
    obtain ⟨i0, hi, hz0', hz1', hz2'⟩ := info_parts info38
    have h4 := (h3.below hb34).take hn
    go_wp2_with (at_builtin; refine wpList_append_fits_any _ rfl (.tmp 59) (.tmp 62) 22 rfl w3.heap.size 38 i0 4 Trym.underlying22 hi hz1' w3.heap.size 0 (len + 1) (rflat []) rfl own3 a n cap (rflat (rs.take n)) rfl ?k1 ?k2 ?k3 (rflat_oneCell _) ?k4 ?_)
    case k1 => rw [rflat_length, h4.1]
    case k2 => intro e; have := hnil.out e; omega
    case k3 => exact rholds_news h4
    case k4 => omega
    intro w5 own5 hg5
    rw [show rflat [] = [] from rfl, List.nil_append] at own5
    have hb35 : Below w3.heap.size w3 w5 := hb34.grown hg5 (by simp) (fun k hk => by cases hk; exact Nat.le_refl _)
    have hX5 := hX3.below hb35
    have hz5 := hb35.size
    obtain ⟨hXl, x0, x1, x2, x3⟩ := hX5
    clear own3 hb34 h4 hg5 hmk
    go_wp2_with (at_builtin; refine wpList_append_fits_any _ rfl (.tmp 64) (.tmp 66) 22 rfl w3.heap.size 38 i0 4 Trym.underlying22 hi hz1' w3.heap.size n (len + 1) (rflat (rs.take n)) rfl (own5.alloc _) (some ⟨w5.heap.size, 0, none⟩) 1 1 (rcells ⟨xk, xn, xp, xf⟩) rfl ?k1 ?k2 ?k3 ?k5 ?k4 ?_)
    case k1 => rfl
    case k2 => intro e; cases e
    case k3 =>
      intro ad had j u hj
      cases had
      rw [add_plain, Nat.zero_add, World.cell?_alloc_new]
      match j, hj with
      | 0, hj => simpa [rcells] using hj
      | 1, hj => simpa [rcells] using hj
      | 2, hj => simpa [rcells] using hj
      | 3, hj => simpa [rcells] using hj
      | j + 4, hj => simp [rcells] at hj
    case k5 => intro u hu; simp [rcells] at hu; rcases hu with rfl | rfl | rfl | rfl <;> rfl
    case k4 => omega
    intro w6 own6 hg6
    have hb36 : Below w3.heap.size w3 w6 := (hb35.alloc hz5 _).grown hg6 (by simp; omega) (fun k hk => by cases hk; exact Nat.le_refl _)
    have hX6 := hX3.below hb36
    have hz6 := hb36.size
    have h6 := h3.below hb36
    clear x0 x1 x2 x3 hXl own5 hb35 hz5 hg6
    obtain ⟨hXl, x0, x1, x2, x3⟩ := hX6
    have hdn := drop_none (n := n) hnil.out
    have hdw := drop_news h6 hcap hn
    obtain ⟨ao, hao⟩ : ∃ ao, (if cap = n then a else Option.map (fun x => x.add (n * 4)) a) = ao := ⟨_, rfl⟩
    rw [hao] at hdn hdw
    have hdn' : Hid (ao = none → len - n = 0 ∧ cap - n = 0) := hdn
    clear hdn
    go_wp2_with (at_builtin; refine wpList_append_fits_any _ rfl (.tmp 68) (.tmp 71) 22 rfl w3.heap.size 38 i0 4 Trym.underlying22 hi hz1' w3.heap.size (n + 1) (len + 1) (rflat (rs.take n) ++ rcells ⟨xk, xn, xp, xf⟩) rfl own6 ao (len - n) (cap - n) (rflat (rs.drop n)) rfl ?k1 ?k2 ?k3 (rflat_oneCell _) ?k4 ?_)
    case k1 => rw [rflat_length, List.length_drop, hrs]
    case k2 => exact hdn'.out
    case k3 => exact hdw
    case k4 => omega
    intro w7 own7 hg7
    have hb37 : Below w3.heap.size w3 w7 := hb36.grown hg7 hz6 (fun k hk => by cases hk; exact Nat.le_refl _)
    have own8 : w7.ownsRow w3.heap.size 38 4 (.slice (some ⟨w3.heap.size, 0, none⟩) (len + 1) (len + 1)) (len + 1) (rflat (insAt rs n ⟨xk, xn, xp, xf⟩)) := by
      have e7 : n + 1 + (len - n) = len + 1 := by omega
      rw [e7] at own7
      unfold insAt
      rw [rflat_append, rflat_append, rflat_one, List.append_assoc]
      simpa [List.append_assoc] using own7
    have hil : (insAt rs n ⟨xk, xn, xp, xf⟩).length = len + 1 := by rw [insAt_length, hrs]
    have hR7 := rholds_of_own own8 hil
    rw [show n + 1 + (len - n) = len + 1 from by omega]
    clear own6 own7 own8 hg7 hdn' hdw hao x0 x1 x2 x3 hXl h6 hb36 hz6
    go_wp2_with fail
    refine (build_any _ (len + 1) (len + 1) (insAt rs n ⟨xk, xn, xp, xf⟩) w7 (by omega) hR7).mono ?_
    rintro e w8 ⟨⟨L8, hL8, rfl, hR8⟩, hb8⟩
    go_wp2_with fail
    refine (failures_rows _ (len + 1) L8 (insAt rs n ⟨xk, xn, xp, xf⟩) w8 (by omega) hL8 hil hR8).mono ?_
    rintro e w9 ⟨⟨V, av, cv, hV, hVe, rfl, hVh⟩, hb9⟩
    have hz7 := hb37.size
    have hz8 := hb8.size
    have hb39 : Below w3.heap.size w3 w9 := (hb37.trans (hb8.mono hz7)).trans (hb9.mono (by omega))
    have hB9 : Below w.heap.size w w9 := hB3.trans (hb39.mono hz3)
    have hWh9 := hWh.below hb39
    have h9 := h3.below hb39
    have hz9 := hB9.size
    have hX9 := hX3.below hb39
    clear hb37 hR7 hb8 hR8 hL8 hb9 hz7 hz8 hWh hb39 hX3 h3 hi hz0' hz1' hz2' hil hB3 hz3
    obtain ⟨hXl, x0, x1, x2, x3⟩ := hX9
    cases xf with
    | false =>
      rw [failed_ins_no rs n _ rfl] at hV
      rw [failed_ins_no rs n _ rfl]
      have hVl : Hid (V.length = (failed rs).length) := by
        show _ = _
        rw [← hV, List.length_map]
      have hWl : Hid (W.length = (failed rs).length) := by
        show _ = _
        rw [← hW, List.length_map]
      have hvw : Hid (V.map toRow = W.map toRow ++ List.map toRow []) := by
        show _ = _
        rw [hV, hW]; simp
      have hbound : (failed rs).length ≤ 65536 := by have := failed_le rs; omega
      clear hV hW
      revert hVl hWl hbound
      generalize (failed rs).length = m
      intro hVl hWl hbound
      go_wp2
      go_loopw [10] (fun i wr => ∃ (q : Nat), q ≤ m ∧ i = .int .i64 q ∧ Below w9.heap.size w9 wr) (fun i _ => m - (intOf i).toNat)
      case atStart => exact ⟨0, Nat.zero_le _, rfl, Below.refl _ _⟩
      case round =>
        obtain ⟨q, hq, rfl, hbq⟩ := hrel
        by_cases hlt : q < m
        · obtain ⟨r2, hr2⟩ : ∃ r, W[q]? = some r := ⟨_, List.getElem?_eq_getElem (by rw [hWl.out]; exact hlt)⟩
          obtain ⟨r1, hr1, hrr⟩ := pair_get hvw.out hr2
          rcases hWh9 with h0 | ⟨gw, rfl, hgw, hcw⟩
          · rw [hWl.out] at h0; omega
          rcases hVh with h0 | ⟨gv, rfl, hgv, hcv⟩
          · rw [hVl.out] at h0; omega
          obtain ⟨sk, sn, sp, sx, sy, ⟨y0, y1, y2, y3⟩, ⟨z0, z1, z2, z3⟩⟩ := alike_cells ((hcw q r2 hr2).below hbq hgw) ((hcv q r1 hr1).below hbq hgv) hrr (hWe q r2 hr2) (hVe q r1 hr1)
          simp only [errV] at y0 y1 y2 y3 z0 z1 z2 z3
          have i2 : (q : Int) < m := by omega
          clear hcw hcv hr1 hr2 hrr hWe hVe
          go_wp2
          go_region_with (go_at_call 10; refine (same_any _ _ _ _ _ _).mono ?_; rintro e wz ⟨rfl, hbz⟩)
          all_goals
            have hbq' : Below w9.heap.size w9 wz := hbq.trans (((Below.refl wr.heap.size wr).drew.trans hbz).mono hbq.size)
            go_wp2
            go_roundw
            case rel => exact ⟨q + 1, by omega, by go_num, hbq'⟩
            case measure => simp [intOf]; omega
        · have hBf : Below w.heap.size w wr := hB9.trans (hbq.mono hz9)
          go_wp2
          go_ret
          exact ⟨rfl, hBf⟩
    | true =>
      rw [failed_ins_yes rs n _ rfl] at hV
      rw [failed_split rs n] at hW
      rw [failed_ins_yes rs n _ rfl, List.length_append, List.length_cons, failed_split rs n, List.length_append]
      have hbound : (failed (rs.take n)).length + (failed (rs.drop n)).length ≤ 65536 := by
        have := failed_le rs
        rw [failed_split rs n, List.length_append] at this
        omega
      have h9' := h9.take hn
      go_wp2_with fail
      refine (countFailed a n cap (rs.take n) w9 (by omega) h9').mono ?_
      rintro e w' ⟨rfl, rfl⟩
      clear h9' h9
      have hV' : Hid (V.map toRow = failed (rs.take n) ++ (⟨xk, xn, xp, true⟩ :: failed (rs.drop n))) := hV
      have hW' : Hid (W.map toRow = failed (rs.take n) ++ failed (rs.drop n)) := hW
      clear hV hW
      revert hV' hW' hbound
      generalize failed (rs.take n) = P
      generalize failed (rs.drop n) = Q
      intro hbound hV' hW'
      have hVl : Hid (V.length = P.length + (Q.length + 1)) := by
        show _ = _
        have := congrArg List.length hV'.out
        simpa using this
      have hWl : Hid (W.length = P.length + Q.length) := by
        show _ = _
        have := congrArg List.length hW'.out
        simpa using this
      obtain ⟨nA, hnA⟩ : ∃ m, P.length = m := ⟨_, rfl⟩
      obtain ⟨nB, hnB⟩ : ∃ m, Q.length = m := ⟨_, rfl⟩
      rw [hnA, hnB] at hbound
      rw [hnA, hnB, show nA + (nB + 1) = nA + nB + 1 from by omega]
      have hnA' : Hid (P.length = nA) := hnA
      have hnB' : Hid (Q.length = nB) := hnB
      clear hnA hnB
      go_wp2
      go_loopw [12] (fun i wr => ∃ (q : Nat), q ≤ nA ∧ i = .int .i64 q ∧ Below w9.heap.size w9 wr) (fun i _ => nA - (intOf i).toNat)
      case atStart => exact ⟨0, Nat.zero_le _, rfl, Below.refl _ _⟩
      case round =>
        obtain ⟨q, hq, rfl, hbq⟩ := hrel
        by_cases hlt : q < nA
        · obtain ⟨r1, r2, hr1, hr2, hrr⟩ := heads hV'.out hW'.out (q := q) (by rw [hnA'.out]; exact hlt)
          have hq1 := (List.getElem?_eq_some_iff.1 hr1).1
          have hq2 := (List.getElem?_eq_some_iff.1 hr2).1
          rcases hWh9 with h0 | ⟨gw, rfl, hgw, hcw⟩
          · omega
          rcases hVh with h0 | ⟨gv, rfl, hgv, hcv⟩
          · omega
          obtain ⟨sk, sn, sp, sx, sy, ⟨y0, y1, y2, y3⟩, ⟨z0, z1, z2, z3⟩⟩ := alike_cells ((hcv q r1 hr1).below hbq hgv) ((hcw q r2 hr2).below hbq hgw) hrr (hVe q r1 hr1) (hWe q r2 hr2)
          simp only [errV] at y0 y1 y2 y3 z0 z1 z2 z3
          have i1 : (q : Int) < (nA : Int) + nB + 1 := by omega
          have i2 : (q : Int) < (nA : Int) + nB := by omega
          have i3 : (q : Int) < (nA + nB + 1 : Nat) := by omega
          have i4 : (q : Int) < (nA + nB : Nat) := by omega
          clear hcw hcv hr1 hr2 hrr hWe hVe hq1 hq2
          go_wp2
          go_region_with (go_at_call 10; refine (same_any _ _ _ _ _ _).mono ?_; rintro e wz ⟨rfl, hbz⟩)
          all_goals
            have hbq' : Below w9.heap.size w9 wz := hbq.trans (((Below.refl wr.heap.size wr).drew.trans hbz).mono hbq.size)
            go_wp2
            go_roundw
            case rel => exact ⟨q + 1, by omega, by go_num, hbq'⟩
            case measure => simp [intOf]; omega
        · rename World => wc
          obtain ⟨rm, hrm, ermx⟩ := middle hV'.out
          rw [hnA'.out] at hrm
          rcases hVh with h0 | ⟨gv, rfl, hgv, hcv⟩
          · rw [hVl.out] at h0; omega
          have hcm := (hcv nA rm hrm).below hbq hgv
          obtain ⟨px, hpx⟩ := hVe nA rm hrm
          obtain ⟨mk, mn, mp, me⟩ := rm
          simp only at hpx
          subst hpx
          unfold toRow at ermx
          simp only [Rw.mk.injEq] at ermx
          obtain ⟨rfl, rfl, rfl, _⟩ := ermx
          obtain ⟨y0, y1, y2, y3⟩ := hcm
          simp only [errV] at y0 y1 y2 y3
          obtain ⟨_, z0, z1, z2, z3⟩ := (XAt.mk hXl x0 x1 x2 x3).below hbq
          have i1 : (nA : Int) < (nA : Int) + nB + 1 := by omega
          have i3 : (nA : Int) < (nA + nB + 1 : Nat) := by omega
          have hcv' : Hid (∀ q r, V[q]? = some r → ResAt w9 gv (q * 4) r) := hcv
          have hVe' : Hid (∀ (q : Nat) (r : Rs), V[q]? = some r → ∃ p, r.err = some p) := hVe
          have hWe' : Hid (∀ (q : Nat) (r : Rs), W[q]? = some r → ∃ p, r.err = some p) := hWe
          clear hcv hVe hWe hrm x0 x1 x2 x3
          go_wp2
          go_region_with (go_at_call 12; refine (isRow_any _ _ _ _ _).mono ?_; rintro e wz ⟨rfl, hbz⟩)
          all_goals
            have hbz' : Below w9.heap.size w9 wz := hbq.trans (((Below.refl wc.heap.size wc).drew.trans hbz).mono hbq.size)
            clear y0 y1 y2 y3 z0 z1 z2 z3 i1 i3 hbz hbq
            go_wp2
            go_loopw [13] (fun i wr => ∃ (t : Nat), nA ≤ t ∧ t ≤ nA + nB ∧ i = .int .i64 t ∧ Below w9.heap.size w9 wr) (fun i _ => nA + nB - (intOf i).toNat)
            case atStart => exact ⟨nA, Nat.le_refl _, Nat.le_add_right _ _, rfl, hbz'⟩
            case round =>
              obtain ⟨t, ht1, ht2, rfl, hbt⟩ := hrel
              by_cases hlt3 : t < nA + nB
              · obtain ⟨r1, r2, hr1, hr2, hrr⟩ := tails hV'.out hW'.out (i := t) (by rw [hnA'.out]; exact ht1) (by rw [hnA'.out, hnB'.out]; exact hlt3)
                have hq2 := (List.getElem?_eq_some_iff.1 hr2).1
                rcases hWh9 with h0 | ⟨gw, rfl, hgw, hcw⟩
                · omega
                obtain ⟨sk, sn, sp, sx, sy, ⟨y0, y1, y2, y3⟩, ⟨z0, z1, z2, z3⟩⟩ := alike_cells ((hcv'.out (t + 1) r1 hr1).below hbt hgv) ((hcw t r2 hr2).below hbt hgw) hrr (hVe'.out (t + 1) r1 hr1) (hWe'.out t r2 hr2)
                simp only [errV] at y0 y1 y2 y3 z0 z1 z2 z3
                have i1 : (t : Int) + 1 < (nA : Int) + nB + 1 := by omega
                have i2 : (t : Int) < (nA : Int) + nB := by omega
                have i3 : (t : Int) + 1 < (nA + nB + 1 : Nat) := by omega
                have i4 : (t : Int) < (nA + nB : Nat) := by omega
                have i5 : (0 : Int) ≤ (t : Int) + 1 := by omega
                have i6 := wrap_id ((t : Int) + 1) (by omega) (by omega)
                have i7 : ((t : Int) + 1).toNat = t + 1 := by omega
                clear hcw hr1 hr2 hrr hq2
                go_wp2
                go_region_with (go_at_call 10; refine (same_any _ _ _ _ _ _).mono ?_; rintro e wy ⟨rfl, hby⟩)
                all_goals
                  have hbt' : Below w9.heap.size w9 wy := hbt.trans (((Below.refl wr.heap.size wr).drew.trans hby).mono hbt.size)
                  go_wp2
                  go_roundw
                  case rel => exact ⟨t + 1, by omega, by omega, by go_num, hbt'⟩
                  case measure => simp [intOf]; omega
              · have hBf : Below w.heap.size w wr := hB9.trans (hbt.mono hz9)
                go_wp2
                go_ret
                exact ⟨rfl, hBf⟩

set_option maxHeartbeats 4000000 in
set_option maxRecDepth 1000000 in
theorem walk_early (a : Option Addr) (len cap : Nat) (rs : List Rw) (n : Int) (xk xn : ByteArray) (xp xf : Bool) (w : World) (hm : len ≤ 9223372036854775807) (h : RHolds w a len rs) (hc : ¬ len ≤ 65536 ∨ n < 0 ∨ (len : Int) < n) :
    Calls Trym.prog 4 #[.slice a len cap, .int .i64 n, .agg #[.string xk, .string xn, .bool xp, .bool xf]] w fun e w' => e = .returned (.bool true) ∧ Below w.heap.size w w' := by
  go_enter Trym.func4, Trym.ntmps4
  go_wp2_with fail
  have hX0 := XAt.new w xk xn xp xf
  have hb0 : Below w.heap.size w (w.alloc (.cells #[.string xk, .string xn, .bool xp, .bool xf] 38)) := (Below.refl _ _).alloc (Nat.le_refl _) _
  generalize (w.alloc (.cells #[.string xk, .string xn, .bool xp, .bool xf] 38)) = w0 at *
  refine (zzbytes11 a len cap rs n xk xn xp xf w0 hm (h.below hb0)).mono ?_
  rintro e w1 ⟨⟨r, rfl⟩, hb1⟩
  have hz0 := hb0.size
  have hB1 : Below w.heap.size w w1 := hb0.trans (hb1.mono hz0)
  have hX1 := hX0.below hb1
  clear hX0 hb1 hb0
  obtain ⟨hXl, x0, x1, x2, x3⟩ := hX1
  cases r with
  | false =>
    go_wp2
    go_ret
    exact ⟨rfl, hB1⟩
  | true =>
    by_cases h1 : len ≤ 65536
    · go_wp2_with fail
      all_goals first | (go_ret; exact ⟨rfl, hB1⟩) | skip
      refine (rowBytes a len cap rs _ w1 h1 (h.below hB1)).mono ?_
      rintro e w' ⟨⟨y, rfl⟩, rfl⟩
      by_cases hy : 1048576 < y
      · go_wp2
        go_ret
        exact ⟨rfl, hB1⟩
      · by_cases h2 : n < 0
        · clear hc
          go_wp2
          go_ret
          exact ⟨rfl, hB1⟩
        · have h3 : (len : Int) < n := by omega
          clear hc
          go_wp2
          go_ret
          exact ⟨rfl, hB1⟩
    · have h2 : (65536 : Int) < len := by omega
      clear hc
      go_wp2
      go_ret
      exact ⟨rfl, hB1⟩

theorem walk (a : Option Addr) (len cap : Nat) (rs : List Rw) (n : Int) (xk xn : ByteArray) (xp xf : Bool) (w : World) (hm : len ≤ 9223372036854775807) (hcap : len ≤ cap) (hnil : a = none → len = 0 ∧ cap = 0) (h : RHolds w a len rs) :
    Calls Trym.prog 4 #[.slice a len cap, .int .i64 n, .agg #[.string xk, .string xn, .bool xp, .bool xf]] w fun e w' => e = .returned (.bool true) ∧ Below w.heap.size w w' := by
  by_cases hc : ¬ len ≤ 65536 ∨ n < 0 ∨ (len : Int) < n
  · exact walk_early a len cap rs n xk xn xp xf w hm h hc
  · obtain ⟨q, rfl⟩ : ∃ q : Nat, n = q := ⟨n.toNat, by omega⟩
    exact walk_in a len cap rs q xk xn xp xf w (by omega) hcap hnil h (by omega)

/-! ### THE ROW's STEP: WRITTEN OUT: LEAVE IT -/
set_option maxRecDepth 100000 in
theorem lifted (os : Os) (started : os.Started) (H : Type) (enc : TypeId × Value → H) :
    ReturnsInHanded {} Trym.checked os 4 .any (Rows.fnFailuresInsertAnywhereSpec.pre6 enc Trym.prog Trym.f4 Rows.fnFailuresInsertAnywhereRow.domain false) (Rows.fnFailuresInsertAnywhereSpec.post enc Trym.prog Trym.f4 false true false false) := by
  refine returnsInHanded_of_change (C := Trym.checked) own started (by kernel_rfl) Trym.func4
    (ChangeSpec.witness6 (enc := enc) (C := Trym.checked) false ⟨#[], #[.slice none 0 0, .int .i64 0, .agg #[.string ByteArray.empty, .string ByteArray.empty, .bool false, .bool false]], []⟩ 8 (by kernel_rfl) (by kernel_rfl) (by kernel_rfl) (by kernel_rfl)) ?_
  intro W base args ds gs before hval0 hW hcnd _
  have hval : ∀ (j : Nat) t v, Trym.f4.params[j]? = some t → args[j]? = some v → Value.okWide Trym.prog W .any base t v := hval0
  have hW' := hW
  obtain ⟨p, q, hA0, hV, rfl, hfz, hnd⟩ := hW
  have hA : DataW.TrodAll enc Trym.prog W 0 (fun _ => true) true Trym.f4.params.toList args.toList ds p := hA0
  rw [Trym.params4] at hA hval
  obtain ⟨v0, vs0, d0, ds0, p0, q0, hargs, rfl, rfl, h0, r0⟩ := trodAll_cons hA
  obtain ⟨v1, vs1, d1, ds1, p1, q1, rfl, rfl, rfl, h1, r1⟩ := trodAll_cons r0
  obtain ⟨v2, vs2, d2, ds2, p2, q2, rfl, rfl, rfl, h2, r2⟩ := trodAll_cons r1
  obtain ⟨rfl, rfl, rfl⟩ := trodAll_nil r2
  obtain rfl : args = #[v0, v1, v2] := by cases args; simp_all
  obtain ⟨rfl, rfl⟩ := trodVars_none hV
  obtain ⟨a0, len0, cap0, rfl⟩ := okWide_slice Trym.underlying22 (hval 0 22 v0 rfl rfl)
  have k0 := h0
  have lt0 : ∀ x ∈ p0, x.block < W.heap.size := by obtain ⟨m, hm⟩ := k0; exact DataW.trod_lt m _ _ _ hm
  obtain ⟨rs, hm0, hc0, hn0, w0⟩ := rows_opened h0
  obtain ⟨a1, rfl, rfl, rfl, w1⟩ := open_int Trym.underlying3 (hval 1 3 v1 rfl rfl) h1
  have k2 := h2
  have lt2 : ∀ x ∈ p2, x.block < W.heap.size := by obtain ⟨m, hm⟩ := k2; exact DataW.trod_lt m _ _ _ hm
  obtain ⟨c0, c1, c2, c3, y0, y1, y2, y3, m, rfl, _, _, t0, t1, t2, t3⟩ := open_agg4 Trym.underlying38 (by kernel_rfl) cells38 (hval 2 38 v2 rfl rfl) h2
  obtain ⟨xk, e0, _, _⟩ := DataW.trod_string Trym.underlying9 t0
  obtain ⟨xn, e1, _, _⟩ := DataW.trod_string Trym.underlying9 t1
  obtain ⟨xp, e2, _⟩ := DataW.trod_bool Trym.underlying4 t2
  obtain ⟨xf, e3, _⟩ := DataW.trod_bool Trym.underlying4 t3
  simp at e0 e1 e2 e3
  subst e0 e1 e2 e3
  clear hA0 hval0
  unfold maxLen at hm0
  refine (walk a0 len0 cap0 rs a1 xk xn xp xf W (by omega) hc0 hn0 w0).mono fun e W' ⟨he, bel⟩ => ?_
  subst he
  exact ⟨_, rfl, _, _, _, [], _, [], hW', trodAll_mk1 (shut_bool Trym.underlying4 _), (trodAll_cons_mk (Below.trod laidOut (by kernel_rfl) (of_decide_eq_true (by kernel_rfl)) k0 bel lt0) (trodAll_cons_mk (shut_int Trym.underlying3 w1) (trodAll_cons_mk (Below.trod laidOut (by kernel_rfl) (of_decide_eq_true (by kernel_rfl)) k2 bel lt2) trodAll_mk0))), rfl, bel.frame _, fun h => by cases h⟩

theorem over : Rows.fnFailuresInsertAnywhereRow.holds Trym.pinned (OpenSpec.ofChange Rows.fnFailuresInsertAnywhereSpec) :=
  OpenClaim.holds_of_wide 4 Trym.f4 rfl rfl rfl rfl rfl rfl rfl ⟨rfl, rfl, rfl, rfl, rfl⟩ rfl rfl rfl rfl rfl (by kernel_rfl) Trym.func4 (by kernel_rfl)
    (of_decide_eq_true (by kernel_rfl)) (by unfold Func.isWrapper; first | (rw [if_pos (by decide +kernel)]; kernel_rfl) | (rw [if_neg (by decide +kernel)]; exact ⟨rfl, rfl⟩))
    (fun os started H enc _ => lifted os started H enc)

/-- ████ THE STATEMENT ████ -/
theorem proved : Rows.FnFailuresInsertAnywhereSaid := over
#print axioms proved
end Go.Proofs.Qxb6613621aMods.fnFailuresInsertAnywhere
