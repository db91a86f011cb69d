import Derived.Test.Qxb6602087aCal
namespace Go.Proofs.Qxb6602087a.cal

def ysum (y : Int) : Nat → Int
  | 0 => 0
  | j + 1 => ysum y j + mdays y (j + 1)
def lp (y : Int) : Int := if leapB y = true then 1 else 0
/-- How many leap years lie in [0, n). -/
def lc (n : Int) : Int := (n + 3) / 4 - (n + 99) / 100 + (n + 399) / 400

theorem tmod_zero (y n : Int) : y.tmod n = 0 ↔ y % n = 0 := by
  rw [← Int.dvd_iff_tmod_eq_zero, ← Int.dvd_iff_emod_eq_zero]
theorem leapB_iff (y : Int) : leapB y = true ↔ (y % 4 = 0 ∧ (y % 100 ≠ 0 ∨ y % 400 = 0)) := by
  simp [leapB, tmod_zero]
theorem lc_succ (y : Int) : lc (y + 1) = lc y + lp y := by
  unfold lp lc
  by_cases h : y % 4 = 0 ∧ (y % 100 ≠ 0 ∨ y % 400 = 0)
  · rw [if_pos ((leapB_iff y).2 h)]; omega
  · rw [if_neg (fun c => h ((leapB_iff y).1 c))]; omega
theorem lc_400 (y : Int) : lc (y + 400) = lc y + 97 := by unfold lc; omega
theorem lp_01 (y : Int) : lp y = 0 ∨ lp y = 1 := by unfold lp; split <;> simp
theorem ysum_12 (y : Int) : ysum y 12 = 365 + lp y := by
  simp [ysum, mdays, tab, lp]
  split <;> rfl
theorem mdays_bd (y m : Int) : 28 ≤ mdays y m ∧ mdays y m ≤ 31 := by
  unfold mdays tab; split <;> (try split) <;> (try split) <;> omega
theorem ysum_bd (y : Int) (j : Nat) : 0 ≤ ysum y j ∧ ysum y j ≤ 31 * j := by
  induction j with
  | zero => simp [ysum]
  | succ j ih => have := mdays_bd y (j + 1); simp only [ysum]; omega
theorem mdays_two (y : Int) : mdays y 2 = 28 + lp y := by
  unfold mdays lp tab; by_cases h : leapB y = true <;> simp [h]
/-- The days of the k years from y on. -/
def tot (y : Int) (k : Nat) : Int := 365 * k + lc (y + k) - lc y
theorem tot_zero (y : Int) : tot y 0 = 0 := by simp [tot]
theorem tot_succ (y : Int) (k : Nat) : tot y (k + 1) = tot y k + (365 + lp (y + k)) := by
  have := lc_succ (y + k)
  unfold tot
  rw [show y + ((k + 1 : Nat) : Int) = y + k + 1 by omega, this]; omega
theorem tot_400 (y : Int) : tot y 400 = 146097 := by
  have := lc_400 y
  unfold tot; simp only [Int.cast_ofNat_Int] ; omega
theorem tot_bd (y : Int) (k : Nat) : 0 ≤ tot y k ∧ tot y k ≤ 366 * k := by
  induction k with
  | zero => simp [tot_zero]
  | succ k ih => have := tot_succ y k; have := lp_01 (y + k); omega
end Go.Proofs.Qxb6602087a.cal
