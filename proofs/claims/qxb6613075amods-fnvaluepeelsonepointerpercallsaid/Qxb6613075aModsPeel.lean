import Derived.Test.Qxb6613075aModsRows
import Derived.WalkKit
import Derived.ProofKit
import Derived.OpenShut
import Derived.ChangeOld
import Derived.Below
import Derived.WalkSpells
import Derived.WalkLawsBesides
import Derived.Deep.OwnRows
import Derived.Stop.Asserts
namespace Go.Proofs.Qxb6613075aMods
open Go.ChangeShapes Go.WideShapes Go.ChangeAt Go.RowKit
set_option linter.unusedVariables false

theorem as72 (v : Value) (w : World) : (Instr.typeAssert (.iface 72 v) 51 72 true).run Trym.prog w = .ok (.tuple #[v, .bool true]) w := by kernel_rfl
theorem as48 (v : Value) (w : World) : (Instr.typeAssert (.iface 48 v) 51 72 true).run Trym.prog w = .ok (.tuple #[.pointer none, .bool false]) w := by kernel_rfl
theorem eql_other (v u : Value) (w : World) : (binOp .eql 51 (.iface 72 v) (.iface 48 u)).run Trym.prog w = .ok (.bool false) w :=
  run_eql_iface_types 72 48 v u Trym.underlying51 (by decide) w
theorem comp48 : (Trym.prog.info? 48).map (fun i => i.comparable) = some true := by kernel_rfl
theorem has71 : (Trym.prog.info? 71).isSome = true := by kernel_rfl
theorem eql_base (a : Addr) (w : World) : (binOp .eql 51 (.iface 48 (.pointer (some a))) (.iface 48 (.pointer (some a)))).run Trym.prog w = .ok (.bool true) w := by
  obtain ⟨i, hi, hc⟩ := Option.map_eq_some_iff.1 comp48
  obtain ⟨j, hj⟩ := Option.isSome_iff_exists.1 has71
  exact run_eql_iface_ptr_same w a Trym.underlying51 Trym.underlying48 hi hc hj

set_option maxHeartbeats 400000 in
theorem newSlice_nil (w : World) :
    Calls Trym.prog 15 #[.nilIface] w fun e w' => e = .returned (.pointer (some ⟨w.heap.size, 0, none⟩)) ∧ w.alloc (.cells #[.nilIface] 71) = w' := by
  go_enter Trym.func15, Trym.ntmps15
  go_wp2
  go_ret
  exact ⟨rfl, rfl⟩

set_option maxHeartbeats 400000 in
theorem newPointer_any (t : TypeId) (x : Value) (w : World) :
    Calls Trym.prog 23 #[.iface t x] w fun e w' => e = .returned (.pointer (some ⟨w.heap.size, 0, none⟩)) ∧ w.alloc (.cells #[.iface t x] 81) = w' := by
  go_enter Trym.func23, Trym.ntmps23
  go_wp2
  go_ret
  exact ⟨rfl, rfl⟩

set_option maxHeartbeats 400000 in
theorem elem_any (B : Nat) (t : TypeId) (x : Value) (w : World) (h : w.cell? ⟨B, 0, none⟩ = some (.iface t x)) :
    Calls Trym.prog 24 #[.pointer (some ⟨B, 0, none⟩)] w fun e w' => e = .returned (.iface t x) ∧ w = w' := by
  go_enter Trym.func24, Trym.ntmps24
  go_wp2
  go_ret
  exact ⟨rfl, rfl⟩

set_option maxHeartbeats 400000 in
theorem value_base (p : Addr) (sc : Int) (w : World) :
    Calls Trym.prog 17 #[.agg #[.iface 48 (.pointer (some p)), .int .i64 sc, .slice none 0 0, .pointer none, .slice none 0 0, .pointer none, .pointer none, .slice none 0 0]] w fun e w' => e = .returned (.iface 48 (.pointer (some p))) ∧ Below w.heap.size w w' := by
  have h48 := as48
  go_enter Trym.func17, Trym.ntmps17
  go_wp2
  go_ret
  exact ⟨rfl, (Below.refl _ _).alloc (Nat.le_refl _) _⟩

set_option maxHeartbeats 400000 in
theorem value_ptr (B : Nat) (t : TypeId) (x : Value) (sc : Int) (w : World) (h : w.cell? ⟨B, 0, none⟩ = some (.iface t x)) (hsc : (sc == 0) = false) :
    Calls Trym.prog 17 #[.agg #[.iface 72 (.pointer (some ⟨B, 0, none⟩)), .int .i64 sc, .slice none 0 0, .pointer none, .slice none 0 0, .pointer none, .pointer none, .slice none 0 0]] w fun e w' => e = .returned (.iface t x) ∧ Below w.heap.size w w' := by
  have h72 := as72
  have hlt := block_lt_of_cell h
  have h' : ∀ o, (w.alloc o).cell? ⟨B, 0, none⟩ = some (.iface t x) := fun o => by rw [World.cell?_alloc_lt _ _ _ (by exact hlt)]; exact h
  go_enter Trym.func17, Trym.ntmps17
  go_wp2_with (go_at_call 24; refine (elem_any _ t x _ (h' _)).mono ?_; rintro e w' ⟨rfl, rfl⟩)
  go_ret
  exact ⟨rfl, (Below.refl _ _).alloc (Nat.le_refl _) _⟩

/-- The k-fold pointer to the base type, the blocks laid one behind the other from N on. -/
def curAt (N : Nat) : Nat → Value
  | 0 => .iface 48 (.pointer (some ⟨N, 0, none⟩))
  | k + 1 => .iface 72 (.pointer (some ⟨N + 1 + k, 0, none⟩))

theorem curAt_iface (N k : Nat) : ∃ t x, curAt N k = .iface t x := by
  cases k with
  | zero => exact ⟨_, _, rfl⟩
  | succ k => exact ⟨_, _, rfl⟩

/-- k pointers have been laid. -/
structure Chain (w : World) (N k : Nat) : Prop where
  size : w.heap.size = N + 1 + k
  cell : ∀ j, j < k → w.cell? ⟨N + 1 + j, 0, none⟩ = some (curAt N j)

theorem Chain.step {w : World} {N k : Nat} (h : Chain w N k) : Chain (w.alloc (.cells #[curAt N k] 81)) N (k + 1) := by
  refine ⟨by simp [h.size]; omega, fun j hj => ?_⟩
  by_cases hjk : j = k
  · subst hjk
    have := World.cell?_alloc_new w #[curAt N j] 81 0
    rw [h.size] at this
    rw [this]; rfl
  · rw [World.cell?_alloc_lt _ _ _ (by simp [h.size]; omega)]
    exact h.cell j (by omega)

set_option maxHeartbeats 1000000 in
theorem pointers_any (N n : Nat) (w : World) (hN : w.heap.size = N + 1) (hn : n ≤ 64) :
    Calls Trym.prog 16 #[.iface 48 (.pointer (some ⟨N, 0, none⟩)), .int .i64 n] w fun e w' => e = .returned (curAt N n) ∧ Chain w' N n ∧ Below w.heap.size w w' := by
  have hN' : Hid (w.heap.size = N + 1) := hN
  clear hN
  go_enter Trym.func16, Trym.ntmps16
  go_wp2
  go_loopw [5, 6] (fun c i wr => ∃ k : Nat, k ≤ n ∧ i = .int .i64 k ∧ c = curAt N k ∧ Chain wr N k ∧ Below w.heap.size w wr) (fun _ i _ => n - (intOf i).toNat)
  case atStart => exact ⟨0, Nat.zero_le _, rfl, rfl, ⟨hN'.out, fun j hj => absurd hj (Nat.not_lt_zero _)⟩, Below.refl _ _⟩
  case round =>
    obtain ⟨k, hk, rfl, rfl, hch, hbel⟩ := hrel
    by_cases hlt : k < n
    · obtain ⟨t, x, hcx⟩ := curAt_iface N k
      have hst := hch.step
      have hsz : Hid (wr.heap.size = N + 1 + k) := hch.size
      rw [hcx] at hst
      rw [hcx]
      clear hcx
      go_wp2_with (go_at_call 23; refine (newPointer_any _ _ _).mono ?_; rintro e w' ⟨rfl, rfl⟩)
      go_roundw
      case rel => exact ⟨k + 1, by omega, by go_num, by simp [curAt, hsz.out], hst, hbel.alloc (by have := hbel.size; omega) _⟩
      case measure => simp [intOf]; omega
    · have hkn : k = n := by omega
      subst hkn
      go_wp2
      go_ret
      exact ⟨rfl, hch, hbel⟩
end Go.Proofs.Qxb6613075aMods
