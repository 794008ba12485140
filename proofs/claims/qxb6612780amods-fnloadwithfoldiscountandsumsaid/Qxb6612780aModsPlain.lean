import Derived.WalkKit
import Derived.OpenShut
namespace Go.Proofs.Qxb6612780aMods
open Go Go.RowKit
/-- The sum of the first k values. -/
def sumTo (g : Nat → Int) : Nat → Int
  | 0 => 0
  | k + 1 => sumTo g k + g k
def fl (l : Int) (k : Nat) : Int := wrap64 (l + k)
def fb (b : Int) (g : Nat → Int) (k : Nat) : Int := wrap64 (b + sumTo g k)
theorem wrap64_of_wf {a : Int} (h : (Lit.int .i64 a).wf = true) : wrap64 a = a := by
  have := bounds_i64 h
  unfold wrap64
  omega
theorem wrap64_step (a b : Int) : wrap64 (wrap64 a + b) = wrap64 (a + b) := by unfold wrap64; omega
theorem fl_zero {l : Int} (h : (Lit.int .i64 l).wf = true) : fl l 0 = l := by simp [fl, wrap64_of_wf h]
theorem fb_zero {b : Int} (h : (Lit.int .i64 b).wf = true) (g : Nat → Int) : fb b g 0 = b := by simp [fb, sumTo, wrap64_of_wf h]
theorem fl_succ (l : Int) (k : Nat) : wrap64 (fl l k + 1) = fl l (k + 1) := by unfold fl; rw [wrap64_step]; congr 1; omega
theorem fb_succ (b : Int) (g : Nat → Int) (k : Nat) : wrap64 (fb b g k + g k) = fb b g (k + 1) := by
  unfold fb; rw [wrap64_step]; simp only [sumTo]; congr 1; omega
/-- The sum gathered from behind: b and the values k .. len - 1. -/
def bk (b : Int) (g : Nat → Int) (len k : Nat) : Int := wrap64 (b + (sumTo g len - sumTo g k))
theorem bk_start {b : Int} (h : (Lit.int .i64 b).wf = true) (g : Nat → Int) (len : Nat) : bk b g len len = b := by
  unfold bk; rw [Int.sub_self, Int.add_zero]; exact wrap64_of_wf h
theorem bk_step (b : Int) (g : Nat → Int) (len k : Nat) : wrap64 (bk b g len (k + 1) + g k) = bk b g len k := by
  unfold bk; rw [wrap64_step]; simp only [sumTo]; congr 1; omega
theorem bk_end (b : Int) (g : Nat → Int) (len : Nat) : bk b g len 0 = fb b g len := by
  unfold bk fb; simp [sumTo]

theorem sumTo_upd (g : Nat → Int) (j : Nat) (v : Int) (n : Nat) : sumTo (fun q => if q = j then v else g q) n = sumTo g n + if j < n then v - g j else 0 := by
  induction n with
  | zero => simp [sumTo]
  | succ n ih =>
    simp only [sumTo, ih]
    by_cases h : n = j
    · subst h; simp; omega
    · rw [if_neg h]
      by_cases h2 : j < n
      · rw [if_pos h2, if_pos (by omega)]; omega
      · rw [if_neg h2, if_neg (by omega)]; omega
/-- The values with those at i and j exchanged. -/
def swp (g : Nat → Int) (i j : Nat) : Nat → Int := fun q => if q = j then g i else if q = i then g j else g q
theorem sumTo_swp (g : Nat → Int) (i j n : Nat) (hi : i < n) (hj : j < n) : sumTo (swp g i j) n = sumTo g n := by
  unfold swp
  rw [sumTo_upd (fun q => if q = i then g j else g q) j (g i) n, sumTo_upd g i (g j) n, if_pos hi, if_pos hj]
  by_cases h : j = i
  · subst h; simp
  · simp only [if_neg h]; omega
theorem fb_swp (b : Int) (g : Nat → Int) (i j n : Nat) (hi : i < n) (hj : j < n) : fb b (swp g i j) n = fb b g n := by
  unfold fb; rw [sumTo_swp g i j n hi hj]
end Go.Proofs.Qxb6612780aMods
