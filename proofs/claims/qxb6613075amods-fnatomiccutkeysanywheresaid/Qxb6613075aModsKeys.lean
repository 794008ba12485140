import Derived.Test.Qxb6613075aModsRows
import Derived.WalkKit
import Derived.ProofKit
import Derived.OpenShut
import Derived.ChangeOld
import Derived.Below
import Derived.WalkSpells
import Derived.WalkLawsBesides
import Derived.Deep.OwnRows
namespace Go.Proofs.Qxb6613075aMods
open Go.ChangeShapes Go.WideShapes Go.ChangeAt Go.RowKit
set_option linter.unusedVariables false

/-- What a slice of strings holds: its elements are 's 0 .. s (len - 1)'. -/
def SHolds (w : World) (a : Option Addr) (len : Nat) (s : Nat → ByteArray) : Prop :=
  len = 0 ∨ ∃ B off, a = some ⟨B, off, none⟩ ∧ B < w.heap.size ∧ ∀ k, k < len → w.cell? ⟨B, off + k, none⟩ = some (.string (s k))

/-- It returned some int. -/
def RetInt (e : Ending) : Prop := ∃ y, e = .returned (.int .i64 y)
/-- It returned some bool; 'true' only where the length is within the bound. -/
def RetBool (len : Nat) (e : Ending) : Prop := ∃ r, e = .returned (.bool r) ∧ (r = true → len ≤ 1048576)

def atm (b : Bool) (n : Nat) : Bool := !b && decide (n = 0)

set_option maxHeartbeats 400000 in
theorem atomic_any (b : Bool) (a : Option Addr) (n c : Nat) (w : World) :
    Calls Trym.prog 9 #[.agg #[.bool b, .slice a n c]] w fun e w' => e = .returned (.bool (atm b n)) ∧ Below w.heap.size w w' := by
  cases b with
  | true =>
    have h : atm true n = false := rfl
    rw [h]
    clear h
    go_enter Trym.func9, Trym.ntmps9
    go_wp2
    go_ret
    exact ⟨rfl, (Below.refl _ _).alloc (Nat.le_refl _) _⟩
  | false =>
    by_cases h0 : n = 0
    · have h : atm false n = true := by simp [atm, h0]
      rw [h]
      clear h
      subst h0
      go_enter Trym.func9, Trym.ntmps9
      go_wp2
      go_ret
      exact ⟨rfl, (Below.refl _ _).alloc (Nat.le_refl _) _⟩
    · have h : atm false n = false := by simp [atm, h0]
      rw [h]
      clear h
      have h1 : ((n : Int) == 0) = false := by simp [h0]
      go_enter Trym.func9, Trym.ntmps9
      go_wp2
      go_ret
      exact ⟨rfl, (Below.refl _ _).alloc (Nat.le_refl _) _⟩

set_option maxHeartbeats 1000000 in
theorem stringsBytes_any (a : Option Addr) (len cap : Nat) (s : Nat → ByteArray) (x : Int) (w : World) (hlen : len ≤ 1048576) (h : SHolds w a len s) :
    Calls Trym.prog 7 #[.slice a len cap, .int .i64 x] w fun e w' => RetInt e ∧ w = w' := by
  go_enter Trym.func7, Trym.ntmps7
  go_wp2
  go_loop [1, 5] (fun acc i => ∃ (k : Nat) (y : Int), k ≤ len ∧ i = .int .i64 k ∧ acc = .int .i64 y) (fun _ i => len - (intOf i).toNat)
  case atStart => exact ⟨0, x, Nat.zero_le _, rfl, rfl⟩
  case round =>
    obtain ⟨k, y, hk, rfl, rfl⟩ := hrel
    by_cases hlt : k < len
    · rcases h with h | ⟨B, off, rfl, hB, hc⟩
      · omega
      have hck := hc k hlt
      clear hc
      go_wp2
      · go_ret
        exact ⟨⟨_, rfl⟩, rfl⟩
      · go_round
        case rel => exact ⟨k + 1, _, by omega, by go_num, rfl⟩
        case measure => simp [intOf]; omega
    · go_wp2
      go_ret
      exact ⟨⟨_, rfl⟩, rfl⟩

set_option maxHeartbeats 1000000 in
theorem zzbytes_any (b : Bool) (a : Option Addr) (len cap : Nat) (s : Nat → ByteArray) (x : Int) (w : World) (hlen : len ≤ 9223372036854775807) (h : SHolds w a len s) :
    Calls Trym.prog 6 #[.bool b, .slice a len cap, .int .i64 x] w fun e w' => RetBool len e ∧ w = w' := by
  by_cases hl : len ≤ 1048576
  · go_enter Trym.func6, Trym.ntmps6
    go_wp2
    go_loop [7, 8] (fun acc i => ∃ (k : Nat) (y : Int), k ≤ len ∧ i = .int .i64 k ∧ acc = .int .i64 y) (fun _ i => len - (intOf i).toNat)
    case atStart => exact ⟨0, _, Nat.zero_le _, rfl, rfl⟩
    case round =>
      obtain ⟨k, y, hk, rfl, rfl⟩ := hrel
      by_cases hlt : k < len
      · rcases h with h | ⟨B, off, rfl, hB, hc⟩
        · omega
        have hck := hc k hlt
        clear hc
        go_wp2
        · go_ret
          exact ⟨⟨_, rfl, fun _ => hl⟩, rfl⟩
        · go_ret
          exact ⟨⟨_, rfl, fun _ => hl⟩, rfl⟩
        · go_round
          case rel => exact ⟨k + 1, _, by omega, by go_num, rfl⟩
          case measure => simp [intOf]; omega
      · go_wp2
        go_ret
        exact ⟨⟨_, rfl, fun _ => hl⟩, rfl⟩
  · have h' : (1048576 : Int) < len := by omega
    go_enter Trym.func6, Trym.ntmps6
    go_wp2
    go_ret
    exact ⟨⟨_, rfl, fun h => by cases h⟩, rfl⟩

theorem info62 : (Trym.prog.info? 62).map (fun i => (i.zero, i.size, i.bytes)) = some (some (.agg #[.string ByteArray.empty, .nilIface]), 2, 32) := by kernel_rfl

/-- The cells that 'make([]Key, n)' lays. -/
def keyCells (n : Nat) : Array Value := madeCells #[.string ByteArray.empty, .nilIface] (n * 2)

theorem make_keys (len : Nat) (hl : len ≤ 1048576) (w : World) :
    (Instr.makeSlice 25 (.int .i64 (len : Int)) (.int .i64 (len : Int))).run Trym.prog w = .ok (.slice (some ⟨w.heap.size, 0, none⟩) len len) (w.alloc (.cells (keyCells len) 62)) := by
  obtain ⟨i, hi, hzz⟩ := Option.map_eq_some_iff.1 info62
  simp only [Prod.mk.injEq] at hzz
  obtain ⟨hz, hs, hb⟩ := hzz
  have hr := run_make (P := Trym.prog) w 25 62 i _ Trym.underlying25 hi hz .i64 .i64 len len (by omega) (Int.le_refl _) (by rw [hb]; omega) (by omega)
  simp only [Int.toNat_natCast, hs] at hr
  exact hr

/-- Block N has n cells that may be written. -/
structure Room (w : World) (N n : Nat) : Prop where
  lt : N < w.heap.size
  cell : ∀ i, i < n → ∃ v, w.cell? ⟨N, i, none⟩ = some v
  froz : ∀ i, w.frozen? ⟨N, i, none⟩ = false

theorem Room.setCell {w : World} {N n : Nat} (h : Room w N n) (a : Addr) (v : Value) : Room (w.setCell a v) N n := by
  refine ⟨by simpa [World.setCell] using h.lt, fun i hi => ?_, fun i => by rw [World.frozen?_setCell]; exact h.froz i⟩
  obtain ⟨u, hu⟩ := h.cell i hi
  exact cell?_setCell_some hu

theorem Room.keys (w : World) (len : Nat) : Room (w.alloc (.cells (keyCells len) 62)) w.heap.size (len * 2) := by
  refine ⟨by simp, fun i hi => ?_, fun i => by simp [go_sem]⟩
  rw [World.cell?_alloc_new]
  have hs : i < (keyCells len).size := by unfold keyCells; rw [size_madeCells]; exact hi
  exact ⟨(keyCells len)[i], by simp [hs]⟩

/-- It returned a slice of that length and capacity. -/
def RetSlice (len : Nat) (e : Ending) : Prop := ∃ a, e = .returned (.slice a len len)

set_option maxHeartbeats 1000000 in
theorem keys_any (a : Option Addr) (len cap : Nat) (s : Nat → ByteArray) (w : World) (hlen : len ≤ 1048576) (h : SHolds w a len s) :
    Calls Trym.prog 8 #[.slice a len cap] w fun e w' => RetSlice len e ∧ Below w.heap.size w w' := by
  have hnil := fun w => Lib.run_eql_slice_nil (P := Trym.prog) w 22 9 a len cap 0 0 Trym.underlying22
  have hmk := make_keys len hlen
  cases a with
  | none =>
    have h0 : len = 0 := by
      rcases h with h | ⟨B, off, h, _⟩
      · exact h
      · cases h
    subst h0
    go_enter Trym.func8, Trym.ntmps8
    go_wp2
    go_ret
    exact ⟨⟨none, rfl⟩, Below.refl _ _⟩
  | some x =>
    go_enter Trym.func8, Trym.ntmps8
    go_wp2
    go_loopw [4] (fun i wr => ∃ k : Nat, k ≤ len ∧ i = .int .i64 k ∧ Room wr w.heap.size (len * 2) ∧ Below w.heap.size w wr) (fun i _ => len - (intOf i).toNat)
    case atStart => exact ⟨0, Nat.zero_le _, rfl, Room.keys w len, (Below.refl _ _).alloc (Nat.le_refl _) _⟩
    case round =>
      obtain ⟨k, hk, rfl, hroom, hbel⟩ := hrel
      by_cases hlt : k < len
      · rcases h with h | ⟨B, off, hx, hB, hc⟩
        · omega
        cases hx
        have hck : wr.cell? ⟨B, off + k, none⟩ = some (.string (s k)) := (hbel.cell (by exact hB)).trans (hc k hlt)
        obtain ⟨v0, hv0⟩ := hroom.cell (k * 2) (by omega)
        obtain ⟨v1, hv1⟩ := hroom.cell (k * 2 + 1) (by omega)
        have f0 := hroom.froz (k * 2)
        have f1 := hroom.froz (k * 2 + 1)
        clear hc hnil hmk
        go_wp2
        go_roundw
        case rel => exact ⟨k + 1, by omega, by go_num, (hroom.setCell _ _).setCell _ _, (hbel.setCell (by simp) _).setCell (by simp) _⟩
        case measure => simp [intOf]; omega
      · go_wp2
        go_ret
        exact ⟨⟨_, rfl⟩, hbel⟩
end Go.Proofs.Qxb6613075aMods
