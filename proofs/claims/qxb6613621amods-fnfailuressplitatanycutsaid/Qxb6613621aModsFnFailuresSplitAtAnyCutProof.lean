/- Proof of Rows.FnFailuresSplitAtAnyCutSaid; the frame after the shell that the kit's tool writes for slices of integers. -/
import Derived.Test.Qxb6613621aModsRows
import Derived.Test.Qxb6613621aModsSame
import Derived.WalkKit
import Derived.ProofKit
import Derived.OpenShut
import Derived.ShutString
import Derived.ChangeOld
import Derived.Below
import Derived.Deep.Slices
import Derived.Lib.SmallJoins
namespace Go.Proofs.Qxb6613621aMods.fnFailuresSplitAtAnyCut
open Go.ChangeShapes Go.WideShapes Go.ChangeAt Go.RowKit Go.Joins
open Go.ChangeMaps (open_string shut_string)
set_option linter.unusedVariables false

theorem own : ownKnob Trym.prog.godebug = none := by kernel_rfl
theorem laidOut : laidOutB Trym.prog = true := by kernel_rfl
theorem cells38 : Trym.prog.cellsOf 38 = 4 := by kernel_rfl
theorem cells9 : Trym.prog.cellsOf 9 = 1 := by kernel_rfl
theorem cells4' : Trym.prog.cellsOf 4 = 1 := by kernel_rfl

/-- A slice of rows that came in, opened: its elements are the rows rs. -/
theorem rows_opened {H : Type} {enc : TypeId × Value → H} {W : World} {a : Option Addr} {len cap : Nat} {d : DataW H} {p : List MemPlace}
    (h : DataW.Trod enc Trym.prog W 0 (fun _ => true) true 22 (.slice a len cap) d p) : ∃ rs : List Rw, len ≤ maxLen ∧ len ≤ cap ∧ RHolds W a len rs := by
  obtain ⟨fuel, hf⟩ := h
  rcases Go.Deep.open_slice Trym.underlying22 hf with ⟨hcs, _⟩ | ⟨x, l, c, m, n, D, Pl, hcs, _, hl, hm, hmm, _, hel⟩
  · simp [Value.cells] at hcs
    obtain ⟨rfl, rfl, rfl⟩ := hcs
    exact ⟨[], Nat.zero_le _, Nat.le_refl _, rfl, .inl rfl⟩
  · simp [Value.cells] at hcs
    obtain ⟨rfl, rfl, rfl⟩ := hcs
    have hmc : m = cap := by simpa using hmm
    subst hmc
    by_cases h0 : len = 0
    · exact ⟨[], by omega, hl, by simp [h0], .inl h0⟩
    · have each : ∀ i, i < len → ∃ r : Rw, W.cell? (x.add (i * 4)) = some (.string r.kind) ∧ W.cell? (x.add (i * 4 + 1)) = some (.string r.name) ∧ W.cell? (x.add (i * 4 + 2)) = some (.bool r.pos) ∧ W.cell? (x.add (i * 4 + 3)) = some (.bool r.failed) := by
        intro i hi
        obtain ⟨cs', h1, h2⟩ := hel i (by omega)
        rw [cells38] at h1
        obtain ⟨_, hlen, hcell⟩ := World.cells?_some h1
        obtain ⟨y0, y1, y2, y3, n', _, _, t0, t1, t2, t3⟩ := trod_struct4 Trym.underlying38 h2
        match cs', hlen with
        | [u0, u1, u2, u3], _ =>
          simp [cells9, cells4'] at t0 t1 t2 t3
          obtain ⟨s0, e0, _, _⟩ := DataW.trod_string Trym.underlying9 t0
          obtain ⟨s1, e1, _, _⟩ := DataW.trod_string Trym.underlying9 t1
          obtain ⟨b2, e2, _⟩ := DataW.trod_bool Trym.underlying4 t2
          obtain ⟨b3, e3, _⟩ := DataW.trod_bool Trym.underlying4 t3
          simp at e0 e1 e2 e3
          subst e0 e1 e2 e3
          have q0 := hcell 0 (by omega)
          have q1 := hcell 1 (by omega)
          have q2 := hcell 2 (by omega)
          have q3 := hcell 3 (by omega)
          rw [Go.Deep.add_add] at q0 q1 q2 q3
          exact ⟨⟨s0, s1, b2, b3⟩, by simpa using q0, by simpa using q1, by simpa using q2, by simpa using q3⟩
      obtain ⟨rs, hrl, hrs⟩ := list_of each
      obtain ⟨b, off, spot⟩ := x
      have hs0 : ∃ r, rs[0]? = some r := ⟨_, List.getElem?_eq_getElem (by omega)⟩
      obtain ⟨r0, hr0⟩ := hs0
      have hspot : spot = none := by simpa [Addr.add] using World.cell?_spot (hrs 0 r0 hr0).1
      subst hspot
      have hlt : b < W.heap.size := block_lt_of_cell (hrs 0 r0 hr0).1
      refine ⟨rs, by omega, hl, hrl, .inr ⟨b, off, rfl, hlt, fun k r hk => ?_⟩⟩
      have := hrs k r hk
      simp only [add_plain] at this
      exact ⟨this.1, this.2.1, this.2.2.1, this.2.2.2⟩

theorem wrap_id (x : Int) (h0 : 0 ≤ x) (h1 : x ≤ 9223372036854775807) : IntKind.i64.wrap x = x := by
  rw [IntKind.wrap_i64]
  omega

set_option maxHeartbeats 8000000 in
theorem walk_in (a : Option Addr) (len cap : Nat) (rs : List Rw) (cut : Nat) (w : World) (hm : len ≤ 65536) (hcap : len ≤ cap) (h : RHolds w a len rs) (hcut : cut ≤ len) :
    Calls Trym.prog 3 #[.slice a len cap, .int .i64 cut] w fun e w' => e = .returned (.bool true) ∧ Below w.heap.size w w' := by
  have hrs := h.1
  go_enter Trym.func3, Trym.ntmps3
  go_wp2_with fail
  refine (zzbytes5 a len cap rs cut w (by omega) h).mono ?_
  rintro e w' ⟨⟨r, rfl⟩, rfl⟩
  cases r with
  | false =>
    go_wp2
    go_ret
    exact ⟨rfl, Below.refl _ _⟩
  | true =>
    go_wp2_with fail
    refine (rowBytes a len cap rs 0 w hm h).mono ?_
    rintro e w' ⟨⟨y, rfl⟩, rfl⟩
    by_cases hy : 1048576 < y
    · go_wp2
      go_ret
      exact ⟨rfl, Below.refl _ _⟩
    · go_wp2_with fail
      refine (build_any a len cap rs w (by omega) h).mono ?_
      rintro e w1 ⟨⟨L1, hL1, rfl, hR1⟩, hb1⟩
      go_wp2_with fail
      refine (failures_rows _ len L1 rs w1 (by omega) hL1 hrs hR1).mono ?_
      rintro e w2 ⟨⟨W, aw, cw, hW, hWe, rfl, hWh⟩, hb2⟩
      have hB2 : Below w.heap.size w w2 := hb1.trans (hb2.mono hb1.size)
      have hz2 := hB2.size
      clear hR1 hL1 hb1 hb2
      have hl := (h.below hB2).take hcut
      go_wp2_with fail
      refine (build_any a cut cap (rs.take cut) w2 (by omega) hl).mono ?_
      rintro e w3 ⟨⟨L3, hL3, rfl, hR3⟩, hb3⟩
      go_wp2_with fail
      refine (failures_rows _ cut L3 (rs.take cut) w3 (by omega) hL3 hl.1 hR3).mono ?_
      rintro e w4 ⟨⟨A, aa, ca, hA, hAe, rfl, hAh⟩, hb4⟩
      have hb24 : Below w2.heap.size w2 w4 := hb3.trans (hb4.mono hb3.size)
      have hB4 : Below w.heap.size w w4 := hB2.trans (hb24.mono hz2)
      have hWh4 := hWh.below hb24
      have hz4 := hB4.size
      have h4 := h.below hB4
      clear hR3 hL3 hb3 hb4 hl hWh hb24
      have cases3 : (cap = cut ∧ Hid (len = cut)) ∨ (¬ cap = cut ∧ Hid (len = cut)) ∨ (¬ cap = cut ∧ ∃ B off, a = some ⟨B, off, none⟩ ∧ Hid (cut < len)) := by
        by_cases hcl : len = cut
        · by_cases hcc : cap = cut
          · exact .inl ⟨hcc, hcl⟩
          · exact .inr (.inl ⟨hcc, hcl⟩)
        · rcases h.2 with h0 | ⟨B, off, rfl, _, _⟩
          · omega
          · exact .inr (.inr ⟨by omega, B, off, rfl, show cut < len by omega⟩)
      have hrd : (rs.drop cut).length = len - cut := by rw [List.length_drop, hrs]
      rcases cases3 with ⟨hcc, hcl⟩ | ⟨hcc, hcl⟩ | ⟨hcc, B, off, rfl, hcl⟩
      · go_wp2_with fail
        refine (build_any a (len - cut) 0 (rs.drop cut) w4 (by omega) (h4.none hcl.out)).mono ?_
        rintro e w5 ⟨⟨L5, hL5, rfl, hR5⟩, hb5⟩
        clear hcc
        go_wp2_with fail
        refine (failures_rows _ (len - cut) L5 (rs.drop cut) w5 (by omega) hL5 hrd hR5).mono ?_
        rintro e w6 ⟨⟨Bl, ab, cb, hBl, hBe, rfl, hBh⟩, hb6⟩
        have hb46 : Below w4.heap.size w4 w6 := hb5.trans (hb6.mono hb5.size)
        have hB6 : Below w.heap.size w w6 := hB4.trans (hb46.mono hz4)
        have hWh6 := hWh4.below hb46
        have hAh6 := hAh.below hb46
        have h6 := h4.below hb46
        have hz6 := hB6.size
        have hsum : Hid ((failed rs).length = (failed (rs.take cut)).length + (failed (rs.drop cut)).length) := by
          show _ = _
          rw [failed_split rs cut, List.length_append]
        have hjoin : Hid (W.map toRow = A.map toRow ++ Bl.map toRow) := by
          show _ = _
          rw [hW, hA, hBl, ← failed_split]
        have hWl : Hid (W.length = (failed (rs.take cut)).length + (failed (rs.drop cut)).length) := by
          show _ = _
          rw [← hsum.out, ← hW, List.length_map]
        have hAl : Hid (A.length = (failed (rs.take cut)).length) := by
          show _ = _
          rw [← hA, List.length_map]
        have hBll : Hid (Bl.length = (failed (rs.drop cut)).length) := by
          show _ = _
          rw [← hBl, List.length_map]
        have hbound : (failed (rs.take cut)).length + (failed (rs.drop cut)).length ≤ 65536 := by
          have := failed_le rs
          rw [hsum.out] at this
          omega
        clear hR5 hL5 hb5 hb6 hWh4 hAh hb46 h4 hW hA hBl
        go_wp2_with fail
        refine (countFailed _ len _ rs w6 hm h6).mono ?_
        rintro e w' ⟨rfl, rfl⟩
        clear h6
        rw [hsum.out]
        clear hsum hrs hrd
        revert hWl hAl hBll hbound
        generalize (failed (rs.take cut)).length = nA
        generalize (failed (rs.drop cut)).length = nB
        intro hWl hAl hBll hbound
        go_wp2
        go_loopw [8] (fun i wr => ∃ (q : Nat), q ≤ nA ∧ i = .int .i64 q ∧ Below w6.heap.size w6 wr) (fun i _ => nA - (intOf i).toNat)
        case atStart => exact ⟨0, Nat.zero_le _, rfl, Below.refl _ _⟩
        case round =>
          obtain ⟨q, hq, rfl, hbq⟩ := hrel
          by_cases hlt : q < nA
          · obtain ⟨r2, hr2⟩ : ∃ r, A[q]? = some r := ⟨_, List.getElem?_eq_getElem (by rw [hAl.out]; exact hlt)⟩
            obtain ⟨r1, hr1, hrr⟩ := pair_get hjoin.out hr2
            have hWq := (List.getElem?_eq_some_iff.1 hr1).1
            rcases hWh6 with h0 | ⟨gw, rfl, hgw, hcw⟩
            · omega
            rcases hAh6 with h0 | ⟨ga, rfl, hga, hca⟩
            · rw [hAl.out] at h0; omega
            obtain ⟨sk, sn, sp, sx, sy, ⟨x0, x1, x2, x3⟩, ⟨y0, y1, y2, y3⟩⟩ := alike_cells ((hca q r2 hr2).below hbq hga) ((hcw q r1 hr1).below hbq hgw) hrr (hAe q r2 hr2) (hWe q r1 hr1)
            simp only [errV] at x0 x1 x2 x3 y0 y1 y2 y3
            have i1 : (q : Int) < (nA : Int) + nB := by omega
            have i2 : (q : Int) < nA := by omega
            have i3 : (q : Int) < (nA + nB : Nat) := by omega
            clear hcw hca hr1 hr2 hrr hWq hWe hAe hBe
            go_wp2
            go_region_with (go_at_call 10; refine (same_any _ _ _ _ _ _).mono ?_; rintro e w7 ⟨rfl, hb7⟩)
            all_goals
              have hbq' : Below w6.heap.size w6 w7 := hbq.trans (((Below.refl wr.heap.size wr).drew.trans hb7).mono hbq.size)
              go_wp2
              go_roundw
              case rel => exact ⟨q + 1, by omega, by go_num, hbq'⟩
              case measure => simp [intOf]; omega
          · rename World => wc
            go_wp2
            go_loopw [9] (fun i wr => ∃ (q : Nat), q ≤ nB ∧ i = .int .i64 q ∧ Below w6.heap.size w6 wr) (fun i _ => nB - (intOf i).toNat)
            case atStart => exact ⟨0, Nat.zero_le _, rfl, hbq⟩
            case round =>
              obtain ⟨t, ht, rfl, hbt⟩ := hrel
              by_cases hlt2 : t < nB
              · obtain ⟨r2, hr2⟩ : ∃ r, Bl[t]? = some r := ⟨_, List.getElem?_eq_getElem (by rw [hBll.out]; exact hlt2)⟩
                obtain ⟨r1, hr1, hrr⟩ := pair_get' hjoin.out hr2
                rw [hAl.out] at hr1
                have hWq := (List.getElem?_eq_some_iff.1 hr1).1
                rcases hWh6 with h0 | ⟨gw, rfl, hgw, hcw⟩
                · omega
                rcases hBh with h0 | ⟨ga, rfl, hga, hca⟩
                · rw [hBll.out] at h0; omega
                obtain ⟨sk, sn, sp, sx, sy, ⟨x0, x1, x2, x3⟩, ⟨y0, y1, y2, y3⟩⟩ := alike_cells ((hca t r2 hr2).below hbt hga) ((hcw (nA + t) r1 hr1).below hbt hgw) hrr (hBe t r2 hr2) (hWe (nA + t) r1 hr1)
                simp only [errV] at x0 x1 x2 x3 y0 y1 y2 y3
                have i1 : (nA : Int) + t < (nA : Int) + nB := by omega
                have i2 : (t : Int) < nB := by omega
                have i3 : (nA : Int) + t < (nA + nB : Nat) := by omega
                have i4 : (0 : Int) ≤ (nA : Int) + t := by omega
                have i5 : nA + t < nA + nB := by omega
                have i6 := wrap_id ((nA : Int) + t) (by omega) (by omega)
                have i7 : ((nA : Int) + t).toNat = nA + t := by omega
                clear hcw hca hr1 hr2 hrr hWq hWe hAe hBe
                go_wp2
                go_region_with (go_at_call 10; refine (same_any _ _ _ _ _ _).mono ?_; rintro e w7 ⟨rfl, hb7⟩)
                all_goals
                  have hbt' : Below w6.heap.size w6 w7 := hbt.trans (((Below.refl wr.heap.size wr).drew.trans hb7).mono hbt.size)
                  go_wp2
                  go_roundw
                  case rel => exact ⟨t + 1, by omega, by go_num, hbt'⟩
                  case measure => simp [intOf]; omega
              · rename World => wd
                go_wp2
                go_loop [10] (fun i => ∃ (u : Nat), u ≤ nA + nB ∧ i = .int .i64 u) (fun i => nA + nB - (intOf i).toNat)
                case atStart => exact ⟨0, Nat.zero_le _, rfl⟩
                case round =>
                  obtain ⟨u, hu, rfl⟩ := hrel
                  by_cases hlt3 : u < nA + nB
                  · obtain ⟨r1, hr1⟩ : ∃ r, W[u]? = some r := ⟨_, List.getElem?_eq_getElem (by rw [hWl.out]; exact hlt3)⟩
                    rcases hWh6 with h0 | ⟨gw, rfl, hgw, hcw⟩
                    · rw [hWl.out] at h0; omega
                    obtain ⟨px, hpx⟩ := hWe u r1 hr1
                    have c3 := ((hcw u r1 hr1).below hbt hgw).c3
                    rw [hpx] at c3
                    simp only [errV] at c3
                    have i1 : (u : Int) < (nA : Int) + nB := by omega
                    have i3 : (u : Int) < (nA + nB : Nat) := by omega
                    clear hcw hr1 hpx hWe hAe hBe
                    go_wp2
                    go_round
                    case rel => exact ⟨u + 1, by omega, by go_num⟩
                    case measure => simp [intOf]; omega
                  · have hBf : Below w.heap.size w wd := hB6.trans (hbt.mono hz6)
                    go_wp2
                    go_ret
                    exact ⟨rfl, hBf⟩
      · go_wp2_with fail
        refine (build_any _ (len - cut) _ (rs.drop cut) w4 (by omega) (h4.none hcl.out)).mono ?_
        rintro e w5 ⟨⟨L5, hL5, rfl, hR5⟩, hb5⟩
        clear hcc
        go_wp2_with fail
        refine (failures_rows _ (len - cut) L5 (rs.drop cut) w5 (by omega) hL5 hrd hR5).mono ?_
        rintro e w6 ⟨⟨Bl, ab, cb, hBl, hBe, rfl, hBh⟩, hb6⟩
        have hb46 : Below w4.heap.size w4 w6 := hb5.trans (hb6.mono hb5.size)
        have hB6 : Below w.heap.size w w6 := hB4.trans (hb46.mono hz4)
        have hWh6 := hWh4.below hb46
        have hAh6 := hAh.below hb46
        have h6 := h4.below hb46
        have hz6 := hB6.size
        have hsum : Hid ((failed rs).length = (failed (rs.take cut)).length + (failed (rs.drop cut)).length) := by
          show _ = _
          rw [failed_split rs cut, List.length_append]
        have hjoin : Hid (W.map toRow = A.map toRow ++ Bl.map toRow) := by
          show _ = _
          rw [hW, hA, hBl, ← failed_split]
        have hWl : Hid (W.length = (failed (rs.take cut)).length + (failed (rs.drop cut)).length) := by
          show _ = _
          rw [← hsum.out, ← hW, List.length_map]
        have hAl : Hid (A.length = (failed (rs.take cut)).length) := by
          show _ = _
          rw [← hA, List.length_map]
        have hBll : Hid (Bl.length = (failed (rs.drop cut)).length) := by
          show _ = _
          rw [← hBl, List.length_map]
        have hbound : (failed (rs.take cut)).length + (failed (rs.drop cut)).length ≤ 65536 := by
          have := failed_le rs
          rw [hsum.out] at this
          omega
        clear hR5 hL5 hb5 hb6 hWh4 hAh hb46 h4 hW hA hBl
        go_wp2_with fail
        refine (countFailed _ len _ rs w6 hm h6).mono ?_
        rintro e w' ⟨rfl, rfl⟩
        clear h6
        rw [hsum.out]
        clear hsum hrs hrd
        revert hWl hAl hBll hbound
        generalize (failed (rs.take cut)).length = nA
        generalize (failed (rs.drop cut)).length = nB
        intro hWl hAl hBll hbound
        go_wp2
        go_loopw [8] (fun i wr => ∃ (q : Nat), q ≤ nA ∧ i = .int .i64 q ∧ Below w6.heap.size w6 wr) (fun i _ => nA - (intOf i).toNat)
        case atStart => exact ⟨0, Nat.zero_le _, rfl, Below.refl _ _⟩
        case round =>
          obtain ⟨q, hq, rfl, hbq⟩ := hrel
          by_cases hlt : q < nA
          · obtain ⟨r2, hr2⟩ : ∃ r, A[q]? = some r := ⟨_, List.getElem?_eq_getElem (by rw [hAl.out]; exact hlt)⟩
            obtain ⟨r1, hr1, hrr⟩ := pair_get hjoin.out hr2
            have hWq := (List.getElem?_eq_some_iff.1 hr1).1
            rcases hWh6 with h0 | ⟨gw, rfl, hgw, hcw⟩
            · omega
            rcases hAh6 with h0 | ⟨ga, rfl, hga, hca⟩
            · rw [hAl.out] at h0; omega
            obtain ⟨sk, sn, sp, sx, sy, ⟨x0, x1, x2, x3⟩, ⟨y0, y1, y2, y3⟩⟩ := alike_cells ((hca q r2 hr2).below hbq hga) ((hcw q r1 hr1).below hbq hgw) hrr (hAe q r2 hr2) (hWe q r1 hr1)
            simp only [errV] at x0 x1 x2 x3 y0 y1 y2 y3
            have i1 : (q : Int) < (nA : Int) + nB := by omega
            have i2 : (q : Int) < nA := by omega
            have i3 : (q : Int) < (nA + nB : Nat) := by omega
            clear hcw hca hr1 hr2 hrr hWq hWe hAe hBe
            go_wp2
            go_region_with (go_at_call 10; refine (same_any _ _ _ _ _ _).mono ?_; rintro e w7 ⟨rfl, hb7⟩)
            all_goals
              have hbq' : Below w6.heap.size w6 w7 := hbq.trans (((Below.refl wr.heap.size wr).drew.trans hb7).mono hbq.size)
              go_wp2
              go_roundw
              case rel => exact ⟨q + 1, by omega, by go_num, hbq'⟩
              case measure => simp [intOf]; omega
          · rename World => wc
            go_wp2
            go_loopw [9] (fun i wr => ∃ (q : Nat), q ≤ nB ∧ i = .int .i64 q ∧ Below w6.heap.size w6 wr) (fun i _ => nB - (intOf i).toNat)
            case atStart => exact ⟨0, Nat.zero_le _, rfl, hbq⟩
            case round =>
              obtain ⟨t, ht, rfl, hbt⟩ := hrel
              by_cases hlt2 : t < nB
              · obtain ⟨r2, hr2⟩ : ∃ r, Bl[t]? = some r := ⟨_, List.getElem?_eq_getElem (by rw [hBll.out]; exact hlt2)⟩
                obtain ⟨r1, hr1, hrr⟩ := pair_get' hjoin.out hr2
                rw [hAl.out] at hr1
                have hWq := (List.getElem?_eq_some_iff.1 hr1).1
                rcases hWh6 with h0 | ⟨gw, rfl, hgw, hcw⟩
                · omega
                rcases hBh with h0 | ⟨ga, rfl, hga, hca⟩
                · rw [hBll.out] at h0; omega
                obtain ⟨sk, sn, sp, sx, sy, ⟨x0, x1, x2, x3⟩, ⟨y0, y1, y2, y3⟩⟩ := alike_cells ((hca t r2 hr2).below hbt hga) ((hcw (nA + t) r1 hr1).below hbt hgw) hrr (hBe t r2 hr2) (hWe (nA + t) r1 hr1)
                simp only [errV] at x0 x1 x2 x3 y0 y1 y2 y3
                have i1 : (nA : Int) + t < (nA : Int) + nB := by omega
                have i2 : (t : Int) < nB := by omega
                have i3 : (nA : Int) + t < (nA + nB : Nat) := by omega
                have i4 : (0 : Int) ≤ (nA : Int) + t := by omega
                have i5 : nA + t < nA + nB := by omega
                have i6 := wrap_id ((nA : Int) + t) (by omega) (by omega)
                have i7 : ((nA : Int) + t).toNat = nA + t := by omega
                clear hcw hca hr1 hr2 hrr hWq hWe hAe hBe
                go_wp2
                go_region_with (go_at_call 10; refine (same_any _ _ _ _ _ _).mono ?_; rintro e w7 ⟨rfl, hb7⟩)
                all_goals
                  have hbt' : Below w6.heap.size w6 w7 := hbt.trans (((Below.refl wr.heap.size wr).drew.trans hb7).mono hbt.size)
                  go_wp2
                  go_roundw
                  case rel => exact ⟨t + 1, by omega, by go_num, hbt'⟩
                  case measure => simp [intOf]; omega
              · rename World => wd
                go_wp2
                go_loop [10] (fun i => ∃ (u : Nat), u ≤ nA + nB ∧ i = .int .i64 u) (fun i => nA + nB - (intOf i).toNat)
                case atStart => exact ⟨0, Nat.zero_le _, rfl⟩
                case round =>
                  obtain ⟨u, hu, rfl⟩ := hrel
                  by_cases hlt3 : u < nA + nB
                  · obtain ⟨r1, hr1⟩ : ∃ r, W[u]? = some r := ⟨_, List.getElem?_eq_getElem (by rw [hWl.out]; exact hlt3)⟩
                    rcases hWh6 with h0 | ⟨gw, rfl, hgw, hcw⟩
                    · rw [hWl.out] at h0; omega
                    obtain ⟨px, hpx⟩ := hWe u r1 hr1
                    have c3 := ((hcw u r1 hr1).below hbt hgw).c3
                    rw [hpx] at c3
                    simp only [errV] at c3
                    have i1 : (u : Int) < (nA : Int) + nB := by omega
                    have i3 : (u : Int) < (nA + nB : Nat) := by omega
                    clear hcw hr1 hpx hWe hAe hBe
                    go_wp2
                    go_round
                    case rel => exact ⟨u + 1, by omega, by go_num⟩
                    case measure => simp [intOf]; omega
                  · have hBf : Below w.heap.size w wd := hB6.trans (hbt.mono hz6)
                    go_wp2
                    go_ret
                    exact ⟨rfl, hBf⟩
      · go_wp2_with fail
        refine (build_any _ (len - cut) _ (rs.drop cut) w4 (by omega) (h4.drop hcl.out)).mono ?_
        rintro e w5 ⟨⟨L5, hL5, rfl, hR5⟩, hb5⟩
        clear hcc
        go_wp2_with fail
        refine (failures_rows _ (len - cut) L5 (rs.drop cut) w5 (by omega) hL5 hrd hR5).mono ?_
        rintro e w6 ⟨⟨Bl, ab, cb, hBl, hBe, rfl, hBh⟩, hb6⟩
        have hb46 : Below w4.heap.size w4 w6 := hb5.trans (hb6.mono hb5.size)
        have hB6 : Below w.heap.size w w6 := hB4.trans (hb46.mono hz4)
        have hWh6 := hWh4.below hb46
        have hAh6 := hAh.below hb46
        have h6 := h4.below hb46
        have hz6 := hB6.size
        have hsum : Hid ((failed rs).length = (failed (rs.take cut)).length + (failed (rs.drop cut)).length) := by
          show _ = _
          rw [failed_split rs cut, List.length_append]
        have hjoin : Hid (W.map toRow = A.map toRow ++ Bl.map toRow) := by
          show _ = _
          rw [hW, hA, hBl, ← failed_split]
        have hWl : Hid (W.length = (failed (rs.take cut)).length + (failed (rs.drop cut)).length) := by
          show _ = _
          rw [← hsum.out, ← hW, List.length_map]
        have hAl : Hid (A.length = (failed (rs.take cut)).length) := by
          show _ = _
          rw [← hA, List.length_map]
        have hBll : Hid (Bl.length = (failed (rs.drop cut)).length) := by
          show _ = _
          rw [← hBl, List.length_map]
        have hbound : (failed (rs.take cut)).length + (failed (rs.drop cut)).length ≤ 65536 := by
          have := failed_le rs
          rw [hsum.out] at this
          omega
        clear hR5 hL5 hb5 hb6 hWh4 hAh hb46 h4 hW hA hBl
        go_wp2_with fail
        refine (countFailed _ len _ rs w6 hm h6).mono ?_
        rintro e w' ⟨rfl, rfl⟩
        clear h6
        rw [hsum.out]
        clear hsum hrs hrd
        revert hWl hAl hBll hbound
        generalize (failed (rs.take cut)).length = nA
        generalize (failed (rs.drop cut)).length = nB
        intro hWl hAl hBll hbound
        go_wp2
        go_loopw [8] (fun i wr => ∃ (q : Nat), q ≤ nA ∧ i = .int .i64 q ∧ Below w6.heap.size w6 wr) (fun i _ => nA - (intOf i).toNat)
        case atStart => exact ⟨0, Nat.zero_le _, rfl, Below.refl _ _⟩
        case round =>
          obtain ⟨q, hq, rfl, hbq⟩ := hrel
          by_cases hlt : q < nA
          · obtain ⟨r2, hr2⟩ : ∃ r, A[q]? = some r := ⟨_, List.getElem?_eq_getElem (by rw [hAl.out]; exact hlt)⟩
            obtain ⟨r1, hr1, hrr⟩ := pair_get hjoin.out hr2
            have hWq := (List.getElem?_eq_some_iff.1 hr1).1
            rcases hWh6 with h0 | ⟨gw, rfl, hgw, hcw⟩
            · omega
            rcases hAh6 with h0 | ⟨ga, rfl, hga, hca⟩
            · rw [hAl.out] at h0; omega
            obtain ⟨sk, sn, sp, sx, sy, ⟨x0, x1, x2, x3⟩, ⟨y0, y1, y2, y3⟩⟩ := alike_cells ((hca q r2 hr2).below hbq hga) ((hcw q r1 hr1).below hbq hgw) hrr (hAe q r2 hr2) (hWe q r1 hr1)
            simp only [errV] at x0 x1 x2 x3 y0 y1 y2 y3
            have i1 : (q : Int) < (nA : Int) + nB := by omega
            have i2 : (q : Int) < nA := by omega
            have i3 : (q : Int) < (nA + nB : Nat) := by omega
            clear hcw hca hr1 hr2 hrr hWq hWe hAe hBe
            go_wp2
            go_region_with (go_at_call 10; refine (same_any _ _ _ _ _ _).mono ?_; rintro e w7 ⟨rfl, hb7⟩)
            all_goals
              have hbq' : Below w6.heap.size w6 w7 := hbq.trans (((Below.refl wr.heap.size wr).drew.trans hb7).mono hbq.size)
              go_wp2
              go_roundw
              case rel => exact ⟨q + 1, by omega, by go_num, hbq'⟩
              case measure => simp [intOf]; omega
          · rename World => wc
            go_wp2
            go_loopw [9] (fun i wr => ∃ (q : Nat), q ≤ nB ∧ i = .int .i64 q ∧ Below w6.heap.size w6 wr) (fun i _ => nB - (intOf i).toNat)
            case atStart => exact ⟨0, Nat.zero_le _, rfl, hbq⟩
            case round =>
              obtain ⟨t, ht, rfl, hbt⟩ := hrel
              by_cases hlt2 : t < nB
              · obtain ⟨r2, hr2⟩ : ∃ r, Bl[t]? = some r := ⟨_, List.getElem?_eq_getElem (by rw [hBll.out]; exact hlt2)⟩
                obtain ⟨r1, hr1, hrr⟩ := pair_get' hjoin.out hr2
                rw [hAl.out] at hr1
                have hWq := (List.getElem?_eq_some_iff.1 hr1).1
                rcases hWh6 with h0 | ⟨gw, rfl, hgw, hcw⟩
                · omega
                rcases hBh with h0 | ⟨ga, rfl, hga, hca⟩
                · rw [hBll.out] at h0; omega
                obtain ⟨sk, sn, sp, sx, sy, ⟨x0, x1, x2, x3⟩, ⟨y0, y1, y2, y3⟩⟩ := alike_cells ((hca t r2 hr2).below hbt hga) ((hcw (nA + t) r1 hr1).below hbt hgw) hrr (hBe t r2 hr2) (hWe (nA + t) r1 hr1)
                simp only [errV] at x0 x1 x2 x3 y0 y1 y2 y3
                have i1 : (nA : Int) + t < (nA : Int) + nB := by omega
                have i2 : (t : Int) < nB := by omega
                have i3 : (nA : Int) + t < (nA + nB : Nat) := by omega
                have i4 : (0 : Int) ≤ (nA : Int) + t := by omega
                have i5 : nA + t < nA + nB := by omega
                have i6 := wrap_id ((nA : Int) + t) (by omega) (by omega)
                have i7 : ((nA : Int) + t).toNat = nA + t := by omega
                clear hcw hca hr1 hr2 hrr hWq hWe hAe hBe
                go_wp2
                go_region_with (go_at_call 10; refine (same_any _ _ _ _ _ _).mono ?_; rintro e w7 ⟨rfl, hb7⟩)
                all_goals
                  have hbt' : Below w6.heap.size w6 w7 := hbt.trans (((Below.refl wr.heap.size wr).drew.trans hb7).mono hbt.size)
                  go_wp2
                  go_roundw
                  case rel => exact ⟨t + 1, by omega, by go_num, hbt'⟩
                  case measure => simp [intOf]; omega
              · rename World => wd
                go_wp2
                go_loop [10] (fun i => ∃ (u : Nat), u ≤ nA + nB ∧ i = .int .i64 u) (fun i => nA + nB - (intOf i).toNat)
                case atStart => exact ⟨0, Nat.zero_le _, rfl⟩
                case round =>
                  obtain ⟨u, hu, rfl⟩ := hrel
                  by_cases hlt3 : u < nA + nB
                  · obtain ⟨r1, hr1⟩ : ∃ r, W[u]? = some r := ⟨_, List.getElem?_eq_getElem (by rw [hWl.out]; exact hlt3)⟩
                    rcases hWh6 with h0 | ⟨gw, rfl, hgw, hcw⟩
                    · rw [hWl.out] at h0; omega
                    obtain ⟨px, hpx⟩ := hWe u r1 hr1
                    have c3 := ((hcw u r1 hr1).below hbt hgw).c3
                    rw [hpx] at c3
                    simp only [errV] at c3
                    have i1 : (u : Int) < (nA : Int) + nB := by omega
                    have i3 : (u : Int) < (nA + nB : Nat) := by omega
                    clear hcw hr1 hpx hWe hAe hBe
                    go_wp2
                    go_round
                    case rel => exact ⟨u + 1, by omega, by go_num⟩
                    case measure => simp [intOf]; omega
                  · have hBf : Below w.heap.size w wd := hB6.trans (hbt.mono hz6)
                    go_wp2
                    go_ret
                    exact ⟨rfl, hBf⟩

set_option maxHeartbeats 2000000 in
theorem walk_early (a : Option Addr) (len cap : Nat) (rs : List Rw) (cut : Int) (w : World) (hm : len ≤ 9223372036854775807) (h : RHolds w a len rs) (hc : ¬ len ≤ 65536 ∨ cut < 0 ∨ (len : Int) < cut) :
    Calls Trym.prog 3 #[.slice a len cap, .int .i64 cut] w fun e w' => e = .returned (.bool true) ∧ Below w.heap.size w w' := by
  go_enter Trym.func3, Trym.ntmps3
  go_wp2_with fail
  refine (zzbytes5 a len cap rs cut w hm h).mono ?_
  rintro e w' ⟨⟨r, rfl⟩, rfl⟩
  cases r with
  | false =>
    go_wp2
    go_ret
    exact ⟨rfl, Below.refl _ _⟩
  | true =>
    by_cases h1 : len ≤ 65536
    · go_wp2_with fail
      refine (rowBytes a len cap rs 0 w h1 h).mono ?_
      rintro e w' ⟨⟨y, rfl⟩, rfl⟩
      by_cases hy : 1048576 < y
      · go_wp2
        go_ret
        exact ⟨rfl, Below.refl _ _⟩
      · by_cases h2 : cut < 0
        · clear hc
          go_wp2
          go_ret
          exact ⟨rfl, Below.refl _ _⟩
        · have h3 : (len : Int) < cut := by omega
          clear hc
          go_wp2
          go_ret
          exact ⟨rfl, Below.refl _ _⟩
    · have h2 : (65536 : Int) < len := by omega
      clear hc
      go_wp2
      go_ret
      exact ⟨rfl, Below.refl _ _⟩

theorem walk (a : Option Addr) (len cap : Nat) (rs : List Rw) (cut : Int) (w : World) (hm : len ≤ 9223372036854775807) (hcap : len ≤ cap) (h : RHolds w a len rs) :
    Calls Trym.prog 3 #[.slice a len cap, .int .i64 cut] w fun e w' => e = .returned (.bool true) ∧ Below w.heap.size w w' := by
  by_cases hc : ¬ len ≤ 65536 ∨ cut < 0 ∨ (len : Int) < cut
  · exact walk_early a len cap rs cut w hm h hc
  · obtain ⟨n, rfl⟩ : ∃ n : Nat, cut = n := ⟨cut.toNat, by omega⟩
    exact walk_in a len cap rs n w (by omega) hcap h (by omega)

/-! ### THE ROW's STEP: WRITTEN OUT: LEAVE IT -/
set_option maxRecDepth 100000 in
theorem lifted (os : Os) (started : os.Started) (H : Type) (enc : TypeId × Value → H) :
    ReturnsInHanded {} Trym.checked os 3 .any (Rows.fnFailuresSplitAtAnyCutSpec.pre6 enc Trym.prog Trym.f3 Rows.fnFailuresSplitAtAnyCutRow.domain false) (Rows.fnFailuresSplitAtAnyCutSpec.post enc Trym.prog Trym.f3 false true false false) := by
  refine returnsInHanded_of_change (C := Trym.checked) own started (by kernel_rfl) Trym.func3
    (ChangeSpec.witness6 (enc := enc) (C := Trym.checked) false ⟨#[], #[.slice none 0 0, .int .i64 0], []⟩ 8 (by kernel_rfl) (by kernel_rfl) (by kernel_rfl) (by kernel_rfl)) ?_
  intro W base args ds gs before hval0 hW hcnd _
  have hval : ∀ (j : Nat) t v, Trym.f3.params[j]? = some t → args[j]? = some v → Value.okWide Trym.prog W .any base t v := hval0
  have hW' := hW
  obtain ⟨p, q, hA0, hV, rfl, hfz, hnd⟩ := hW
  have hA : DataW.TrodAll enc Trym.prog W 0 (fun _ => true) true Trym.f3.params.toList args.toList ds p := hA0
  rw [Trym.params3] at hA hval
  obtain ⟨v0, vs0, d0, ds0, p0, q0, hargs, rfl, rfl, h0, r0⟩ := trodAll_cons hA
  obtain ⟨v1, vs1, d1, ds1, p1, q1, rfl, rfl, rfl, h1, r1⟩ := trodAll_cons r0
  obtain ⟨rfl, rfl, rfl⟩ := trodAll_nil r1
  obtain rfl : args = #[v0, v1] := by cases args; simp_all
  obtain ⟨rfl, rfl⟩ := trodVars_none hV
  obtain ⟨a0, len0, cap0, rfl⟩ := okWide_slice Trym.underlying22 (hval 0 22 v0 rfl rfl)
  have k0 := h0
  have lt0 : ∀ x ∈ p0, x.block < W.heap.size := by obtain ⟨m, hm⟩ := k0; exact DataW.trod_lt m _ _ _ hm
  obtain ⟨rs, hm0, hc0, w0⟩ := rows_opened h0
  obtain ⟨a1, rfl, rfl, rfl, w1⟩ := open_int Trym.underlying3 (hval 1 3 v1 rfl rfl) h1
  clear hA0 hval0
  unfold maxLen at hm0
  refine (walk a0 len0 cap0 rs a1 W (by omega) hc0 w0).mono fun e W' ⟨he, bel⟩ => ?_
  subst he
  exact ⟨_, rfl, _, _, _, [], _, [], hW', trodAll_mk1 (shut_bool Trym.underlying4 _), (trodAll_cons_mk (Below.trod laidOut (by kernel_rfl) (of_decide_eq_true (by kernel_rfl)) k0 bel lt0) (trodAll_cons_mk (shut_int Trym.underlying3 w1) trodAll_mk0)), rfl, bel.frame _, fun h => by cases h⟩

theorem over : Rows.fnFailuresSplitAtAnyCutRow.holds Trym.pinned (OpenSpec.ofChange Rows.fnFailuresSplitAtAnyCutSpec) :=
  OpenClaim.holds_of_wide 3 Trym.f3 rfl rfl rfl rfl rfl rfl rfl ⟨rfl, rfl, rfl, rfl, rfl⟩ rfl rfl rfl rfl rfl (by kernel_rfl) Trym.func3 (by kernel_rfl)
    (of_decide_eq_true (by kernel_rfl)) (by unfold Func.isWrapper; first | (rw [if_pos (by decide +kernel)]; kernel_rfl) | (rw [if_neg (by decide +kernel)]; exact ⟨rfl, rfl⟩))
    (fun os started H enc _ => lifted os started H enc)

/-- ████ THE STATEMENT ████ -/
theorem proved : Rows.FnFailuresSplitAtAnyCutSaid := over
#print axioms proved
end Go.Proofs.Qxb6613621aMods.fnFailuresSplitAtAnyCut
