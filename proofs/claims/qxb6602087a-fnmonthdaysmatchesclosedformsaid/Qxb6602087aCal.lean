import Derived.Test.Qxb6602087aRows
import Derived.WalkKit
import Derived.ProofKit
namespace Go.Proofs.Qxb6602087a.cal
open Go.ChangeShapes Go.WideShapes Go.ChangeAt Go.RowKit

/-- The number of days of month 'm' of a year that does not leap. -/
def tab (m : Int) : Int := if m = 2 then 28 else if m = 4 ∨ m = 6 ∨ m = 9 ∨ m = 11 then 30 else 31
/-- A Gregorian leap year, as MonthDays asks it. -/
def leapB (y : Int) : Bool := decide (y.tmod 4 = 0 ∧ (y.tmod 100 ≠ 0 ∨ y.tmod 400 = 0))
def mdays (y m : Int) : Int := if m = 2 ∧ leapB y = true then 29 else tab m

theorem idx (m : Int) (h1 : 1 ≤ m) (h12 : m ≤ 12) (w : World) :
    (Instr.index 28 (Value.agg #[.int .i64 31, .int .i64 28, .int .i64 31, .int .i64 30, .int .i64 31, .int .i64 30, .int .i64 31, .int .i64 31, .int .i64 30, .int .i64 31, .int .i64 30, .int .i64 31]) (.int .i64 (m - 1))).run Try.prog w = .ok (.int .i64 (tab m)) w := by
  have hm : m = 1 ∨ m = 2 ∨ m = 3 ∨ m = 4 ∨ m = 5 ∨ m = 6 ∨ m = 7 ∨ m = 8 ∨ m = 9 ∨ m = 10 ∨ m = 11 ∨ m = 12 := by omega
  rcases hm with rfl | rfl | rfl | rfl | rfl | rfl | rfl | rfl | rfl | rfl | rfl | rfl <;>
  simp [Instr.index, run_underlying Try.underlying28, asIntOf, go_sem, tab]

set_option maxHeartbeats 800000 in
theorem md_other (y m : Int) (h1 : 1 ≤ m) (h12 : m ≤ 12) (h2 : m ≠ 2) (w : World) :
    Calls Try.prog 8 #[.int .i64 y, .int .i64 m] w fun e w' => e = .returned (.int .i64 (tab m)) ∧ w' = w := by
  have hi := idx m h1 h12
  have hb : (m == 2) = false := by simp [h2]
  go_enter Try.func8, Try.ntmps8
  go_wp2
  go_ret
  exact ⟨rfl, rfl⟩
theorem idx2 (w : World) :
    (Instr.index 28 (Value.agg #[.int .i64 31, .int .i64 28, .int .i64 31, .int .i64 30, .int .i64 31, .int .i64 30, .int .i64 31, .int .i64 31, .int .i64 30, .int .i64 31, .int .i64 30, .int .i64 31]) (.int .i64 1)).run Try.prog w = .ok (.int .i64 28) w :=
  idx 2 (by omega) (by omega) w
set_option maxHeartbeats 800000 in
theorem md_two4 (y : Int) (h4 : (y.tmod 4 == 0) = false) (w : World) :
    Calls Try.prog 8 #[.int .i64 y, .int .i64 2] w fun e w' => e = .returned (.int .i64 28) ∧ w' = w := by
  have hi := idx2
  go_enter Try.func8, Try.ntmps8
  go_wp2
  go_ret
  exact ⟨rfl, rfl⟩
set_option maxHeartbeats 800000 in
theorem md_two100 (y : Int) (h4 : (y.tmod 4 == 0) = true) (h100 : (y.tmod 100 != 0) = true) (w : World) :
    Calls Try.prog 8 #[.int .i64 y, .int .i64 2] w fun e w' => e = .returned (.int .i64 29) ∧ w' = w := by
  go_enter Try.func8, Try.ntmps8
  go_wp2
  go_ret
  exact ⟨rfl, rfl⟩
set_option maxHeartbeats 800000 in
theorem md_two400 (y : Int) (h4 : (y.tmod 4 == 0) = true) (h100 : (y.tmod 100 != 0) = false) (h400 : (y.tmod 400 == 0) = true) (w : World) :
    Calls Try.prog 8 #[.int .i64 y, .int .i64 2] w fun e w' => e = .returned (.int .i64 29) ∧ w' = w := by
  go_enter Try.func8, Try.ntmps8
  go_wp2
  go_ret
  exact ⟨rfl, rfl⟩
set_option maxHeartbeats 800000 in
theorem md_twono (y : Int) (h4 : (y.tmod 4 == 0) = true) (h100 : (y.tmod 100 != 0) = false) (h400 : (y.tmod 400 == 0) = false) (w : World) :
    Calls Try.prog 8 #[.int .i64 y, .int .i64 2] w fun e w' => e = .returned (.int .i64 28) ∧ w' = w := by
  have hi := idx2
  go_enter Try.func8, Try.ntmps8
  go_wp2
  go_ret
  exact ⟨rfl, rfl⟩

theorem md_two (y : Int) (w : World) :
    Calls Try.prog 8 #[.int .i64 y, .int .i64 2] w fun e w' => e = .returned (.int .i64 (mdays y 2)) ∧ w' = w := by
  cases h4 : (y.tmod 4 == 0)
  · have : mdays y 2 = 28 := by
      have : ¬ y.tmod 4 = 0 := by simpa using h4
      simp [mdays, leapB, tab, this]
    rw [this]; exact md_two4 y h4 w
  · have e4 : y.tmod 4 = 0 := by simpa using h4
    cases h100 : (y.tmod 100 != 0)
    · have e100 : y.tmod 100 = 0 := by simpa using h100
      cases h400 : (y.tmod 400 == 0)
      · have e400 : ¬ y.tmod 400 = 0 := by simpa using h400
        have : mdays y 2 = 28 := by simp [mdays, leapB, tab, e4, e100, e400]
        rw [this]; exact md_twono y h4 h100 h400 w
      · have e400 : y.tmod 400 = 0 := by simpa using h400
        have : mdays y 2 = 29 := by simp [mdays, leapB, e4, e400]
        rw [this]; exact md_two400 y h4 h100 h400 w
    · have e100 : ¬ y.tmod 100 = 0 := by simpa using h100
      have : mdays y 2 = 29 := by simp [mdays, leapB, e4, e100]
      rw [this]; exact md_two100 y h4 h100 w

/-- MonthDays, at every year and every month 1 to 12. -/
theorem md (y m : Int) (h1 : 1 ≤ m) (h12 : m ≤ 12) (w : World) :
    Calls Try.prog 8 #[.int .i64 y, .int .i64 m] w fun e w' => e = .returned (.int .i64 (mdays y m)) ∧ w' = w := by
  by_cases h2 : m = 2
  · subst h2; exact md_two y w
  · have : mdays y m = tab m := by simp [mdays, h2]
    rw [this]; exact md_other y m h1 h12 h2 w
end Go.Proofs.Qxb6602087a.cal
