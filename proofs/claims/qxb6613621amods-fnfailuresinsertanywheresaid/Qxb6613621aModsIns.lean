import Derived.Test.Qxb6613621aModsSame
import Derived.Deep.Slices
import Derived.Lib.SmallJoins
namespace Go.Proofs.Qxb6613621aMods
open Go.ChangeShapes Go.WideShapes Go.ChangeAt Go.RowKit Go.Joins
set_option linter.unusedVariables false

/-! ### Plain -/
def rcells (r : Rw) : List Value := [.string r.kind, .string r.name, .bool r.pos, .bool r.failed]
def rflat (L : List Rw) : List Value := L.flatMap rcells
theorem rflat_append (L M : List Rw) : rflat (L ++ M) = rflat L ++ rflat M := by simp [rflat]
theorem rflat_one (r : Rw) : rflat [r] = rcells r := by simp [rflat]
theorem rflat_length (L : List Rw) : (rflat L).length = L.length * 4 := by
  induction L with
  | nil => rfl
  | cons r L ih =>
    have : rflat (r :: L) = rcells r ++ rflat L := rfl
    rw [this, List.length_append, ih, List.length_cons]
    have h4 : (rcells r).length = 4 := rfl
    omega
theorem rflat_get (L : List Rw) (q : Nat) (r : Rw) (h : L[q]? = some r) (c : Nat) (hc : c < 4) : (rflat L)[q * 4 + c]? = (rcells r)[c]? := by
  induction L generalizing q with
  | nil => simp at h
  | cons s L ih =>
    have e : rflat (s :: L) = rcells s ++ rflat L := rfl
    rw [e]
    cases q with
    | zero =>
      simp at h
      subst h
      rw [List.getElem?_append_left (by show 0 * 4 + c < 4; omega)]
      simp
    | succ q =>
      rw [List.getElem?_append_right (by show 4 ≤ (q + 1) * 4 + c; omega)]
      have : (q + 1) * 4 + c - (rcells s).length = q * 4 + c := by show (q + 1) * 4 + c - 4 = _; omega
      rw [this]
      exact ih q (by simpa using h)
theorem rflat_oneCell (L : List Rw) : ∀ u ∈ rflat L, u.oneCell' = true := by
  intro u hu
  obtain ⟨r, _, hr⟩ := List.mem_flatMap.1 hu
  simp [rcells] at hr
  rcases hr with rfl | rfl | rfl | rfl <;> rfl

/-- The rows with x put in at the place n. -/
def insAt (rs : List Rw) (n : Nat) (x : Rw) : List Rw := rs.take n ++ [x] ++ rs.drop n
theorem insAt_length (rs : List Rw) (n : Nat) (x : Rw) : (insAt rs n x).length = rs.length + 1 := by
  simp [insAt]; omega
theorem failed_ins_no (rs : List Rw) (n : Nat) (x : Rw) (h : x.failed = false) : failed (insAt rs n x) = failed rs := by
  rw [failed_split rs n]
  unfold insAt failed
  rw [List.filter_append, List.filter_append]
  simp [h]
theorem failed_ins_yes (rs : List Rw) (n : Nat) (x : Rw) (h : x.failed = true) : failed (insAt rs n x) = failed (rs.take n) ++ (x :: failed (rs.drop n)) := by
  unfold insAt failed
  rw [List.filter_append, List.filter_append]
  simp [h]

/-! ### Worlds -/
theorem rholds_flat {w : World} {B off len : Nat} {rs : List Rw} (h : RHolds w (some ⟨B, off, none⟩) len rs) : ∀ j u, (rflat rs)[j]? = some u → w.cell? ((⟨B, off, none⟩ : Addr).add j) = some u := by
  intro j u hj
  have hjl := (List.getElem?_eq_some_iff.1 hj).1
  rw [rflat_length, h.1] at hjl
  rcases h.2 with h0 | ⟨B', off', ha, _, hc⟩
  · omega
  · cases ha
    have hq : j / 4 < len := by omega
    obtain ⟨r, hr⟩ : ∃ r, rs[j / 4]? = some r := ⟨_, List.getElem?_eq_getElem (by rw [h.1]; exact hq)⟩
    have hc4 : j % 4 < 4 := by omega
    have hf := rflat_get rs (j / 4) r hr (j % 4) hc4
    have hjj : j / 4 * 4 + j % 4 = j := by omega
    rw [hjj, hj] at hf
    obtain ⟨c0, c1, c2, c3⟩ := hc (j / 4) r hr
    rw [add_plain]
    rw [show off + j = off + j / 4 * 4 + j % 4 from by omega]
    generalize j % 4 = c at hf hc4
    match c, hc4 with
    | 0, _ => simp [rcells] at hf; rw [hf]; exact c0
    | 1, _ => simp [rcells] at hf; rw [hf]; exact c1
    | 2, _ => simp [rcells] at hf; rw [hf]; exact c2
    | 3, _ => simp [rcells] at hf; rw [hf]; exact c3

theorem rholds_of_own {w : World} {base g n cap : Nat} {rs : List Rw} (h : w.ownsRow base 38 4 (.slice (some ⟨g, 0, none⟩) n cap) n (rflat rs)) (hn : rs.length = n) : RHolds w (some ⟨g, 0, none⟩) n rs := by
  refine ⟨hn, .inr ⟨g, 0, rfl, (h.lt g rfl).2, fun k r hk => ?_⟩⟩
  have hkl := (List.getElem?_eq_some_iff.1 hk).1
  have hcell : ∀ i, i < 4 → w.cell? ⟨g, k * 4 + i, none⟩ = (rcells r)[i]? := fun i hi => by rw [h.cellAt (k * 4 + i) (by omega), rflat_get rs k r hk i hi]
  rw [Nat.zero_add]
  exact ⟨hcell 0 (by omega), hcell 1 (by omega), hcell 2 (by omega), hcell 3 (by omega)⟩

theorem info38 : (Trym.prog.info? 38).map (fun i => (i.zero, i.size, i.bytes)) = some (some (.agg #[.string ByteArray.empty, .string ByteArray.empty, .bool false, .bool false]), 4, 40) := by kernel_rfl

/-- The cells that 'make([]ConfB1Row, 0, n)' lays. -/
def rowCells (n : Nat) : Array Value := madeCells #[.string ByteArray.empty, .string ByteArray.empty, .bool false, .bool false] (n * 4)

theorem make_rows (len : Nat) (hl : len ≤ 1048576) (w : World) :
    (Instr.makeSlice 22 (.int .i64 0) (.int .i64 ((len : Int) + 1))).run Trym.prog w = .ok (.slice (some ⟨w.heap.size, 0, none⟩) 0 (len + 1)) (w.alloc (.cells (rowCells (len + 1)) 38)) := by
  obtain ⟨i, hi, hzz⟩ := Option.map_eq_some_iff.1 info38
  simp only [Prod.mk.injEq] at hzz
  obtain ⟨hz, hs, hb⟩ := hzz
  have hr := run_make (P := Trym.prog) w 22 38 i _ Trym.underlying22 hi hz .i64 .i64 0 ((len : Int) + 1) (by omega) (by omega) (by rw [hb]; omega) (by omega)
  have e1 : ((len : Int) + 1).toNat = len + 1 := by omega
  have e0 : (0 : Int).toNat = 0 := rfl
  simp only [e1, e0, hs] at hr
  exact hr

theorem own_made (w : World) (n base : Nat) (hb : base ≤ w.heap.size) (hn : n ≤ 1099511627776) : (w.alloc (.cells (rowCells n) 38)).ownsRow base 38 4 (.slice (some ⟨w.heap.size, 0, none⟩) 0 n) 0 (rflat []) :=
  World.ownsRow_made w (rowCells n) n hb (by unfold maxLen; omega) (by unfold rowCells; rw [size_madeCells])

set_option maxHeartbeats 4000000 in
theorem zzbytes11 (a : Option Addr) (len cap : Nat) (rs : List Rw) (n : Int) (xk xn : ByteArray) (xp xf : Bool) (w : World) (hlen : len ≤ 9223372036854775807) (h : RHolds w a len rs) :
    Calls Trym.prog 11 #[.slice a len cap, .int .i64 n, .agg #[.string xk, .string xn, .bool xp, .bool xf]] w fun e w' => RetB e ∧ Below w.heap.size w w' := by
  have hB0 : Below w.heap.size w (w.alloc (.cells #[.string xk, .string xn, .bool xp, .bool xf] 38)) := (Below.refl _ _).alloc (Nat.le_refl _) _
  by_cases hl : len ≤ 1048576
  · go_enter Trym.func11, Trym.ntmps11
    go_wp2
    go_loop [7, 8] (fun acc i => ∃ (k : Nat) (y : Int), k ≤ len ∧ i = .int .i64 k ∧ acc = .int .i64 y) (fun _ i => len - (intOf i).toNat)
    case atStart => exact ⟨0, _, Nat.zero_le _, rfl, rfl⟩
    case round =>
      obtain ⟨k, y, hk, rfl, rfl⟩ := hrel
      by_cases hlt : k < len
      · have h' := h.below hB0
        rcases h'.2 with h0 | ⟨B, off, rfl, hB, hc⟩
        · omega
        obtain ⟨r, hr⟩ : ∃ r, rs[k]? = some r := ⟨_, List.getElem?_eq_getElem (by rw [h.1]; exact hlt)⟩
        obtain ⟨c0, c1, c2, c3⟩ := hc k r hr
        clear hc hr h h'
        go_wp2
        all_goals first | (go_ret; exact ⟨⟨_, rfl⟩, hB0⟩) | skip
        go_round
        case rel => exact ⟨k + 1, _, by omega, by go_num, rfl⟩
        case measure => simp [intOf]; omega
      · go_wp2
        all_goals
          go_ret
          exact ⟨⟨_, rfl⟩, hB0⟩
  · have h' : (1048576 : Int) < len := by omega
    go_enter Trym.func11, Trym.ntmps11
    go_wp2
    go_ret
    exact ⟨⟨_, rfl⟩, hB0⟩
end Go.Proofs.Qxb6613621aMods
