import Derived.Test.Qxb6602087aCycMath
import Derived.Deep.QuietTactic
import Derived.BigQuiet
namespace Go.Proofs.Qxb6602087a.cal
open Go.ChangeShapes Go.WideShapes Go.ChangeAt Go.RowKit

theorem leap_of_25 (y : Int) (h : ¬ y.tmod 25 = 0) : decide (y.tmod 4 = 0) = leapB y := by
  have h' : ¬ y % 25 = 0 := fun c => h ((tmod_zero y 25).2 c)
  rw [Bool.eq_iff_iff, leapB_iff, decide_eq_true_iff, tmod_zero]; omega
theorem leap_of_16 (y : Int) (h : y.tmod 25 = 0) : decide (y.tmod 16 = 0) = leapB y := by
  have h' : y % 25 = 0 := (tmod_zero y 25).1 h
  rw [Bool.eq_iff_iff, leapB_iff, decide_eq_true_iff, tmod_zero]; omega
theorem ret_bool {a b : Bool} (h : a = b) : Ending.returned (.bool a) = .returned (.bool b) := by rw [h]
theorem beq_dec (a b : Int) : (a == b) = decide (a = b) := rfl

set_option maxHeartbeats 400000 in
theorem greg (y : Int) (w : World) :
    Calls Try.prog 9 #[.int .i64 y] w fun e w' => e = .returned (.bool (leapB y)) ∧ w' = w := by
  by_cases h : y.tmod 25 = 0
  · have hb : (y.tmod 25 != 0) = false := by simp [h]
    have H := (id (leap_of_16 y h) : Hid (decide (y.tmod 16 = 0) = leapB y))
    clear h
    go_enter Try.func9, Try.ntmps9
    go_wp2
    go_ret
    exact ⟨ret_bool H.out, rfl⟩
  · have hb : (y.tmod 25 != 0) = true := by simp [h]
    have H := (id (leap_of_25 y h) : Hid (decide (y.tmod 4 = 0) = leapB y))
    clear h
    go_enter Try.func9, Try.ntmps9
    go_wp2
    go_ret
    exact ⟨ret_bool H.out, rfl⟩

set_option maxRecDepth 100000 in
set_option maxHeartbeats 800000 in
theorem closed_out (y m : Int) (h : m < 1 ∨ 12 < m) (w : World) :
    Calls Try.prog 3 #[.int .i64 y, .int .i64 m] w fun e w' => e = .returned (.bool true) ∧ w' = w := by
  by_cases h1 : m < 1
  · go_enter Try.func3, Try.ntmps3
    go_wp2
    go_ret
    exact ⟨rfl, rfl⟩
  · have h2 : 12 < m := by omega
    go_enter Try.func3, Try.ntmps3
    go_wp2
    go_ret
    exact ⟨rfl, rfl⟩

set_option maxRecDepth 100000 in
set_option maxHeartbeats 4000000 in
theorem closed_other (y m : Int) (h1 : 1 ≤ m) (h12 : m ≤ 12) (h2 : m ≠ 2) (w : World) :
    Calls Try.prog 3 #[.int .i64 y, .int .i64 m] w fun e w' => e = .returned (.bool true) ∧ ∃ n, w' = w.drewN n := by
  have hm : m = 1 ∨ m = 3 ∨ m = 4 ∨ m = 5 ∨ m = 6 ∨ m = 7 ∨ m = 8 ∨ m = 9 ∨ m = 10 ∨ m = 11 ∨ m = 12 := by omega
  have hd : mdays y m = tab m := by simp [mdays, h2]
  clear h1 h12 h2
  rcases hm with rfl | rfl | rfl | rfl | rfl | rfl | rfl | rfl | rfl | rfl | rfl
  all_goals
    simp only [tab, Int.reduceEq, or_self, or_true, or_false, if_true, if_false] at hd
    go_enter Try.func3, Try.ntmps3
    go_wp2_with (go_at_call 8; refine (md _ _ (by omega) (by omega) _).mono ?_; rintro e w' ⟨rfl, rfl⟩)
    go_quiet (fail)
    go_wp2_with (go_at_call 9; refine (greg _ _).mono ?_; rintro e w' ⟨rfl, rfl⟩)
    go_ret
    exact ⟨rfl, _, rfl⟩

set_option maxRecDepth 100000 in
set_option maxHeartbeats 800000 in
theorem closed_two (y : Int) (w : World) :
    Calls Try.prog 3 #[.int .i64 y, .int .i64 2] w fun e w' => e = .returned (.bool true) ∧ ∃ n, w' = w.drewN n := by
  cases hl : leapB y
  · have hd : mdays y 2 = 28 := by simp [mdays, tab, hl]
    go_enter Try.func3, Try.ntmps3
    go_wp2_with (go_at_call 8; refine (md _ _ (by omega) (by omega) _).mono ?_; rintro e w' ⟨rfl, rfl⟩)
    go_quiet (fail)
    go_wp2_with (go_at_call 9; refine (greg _ _).mono ?_; rintro e w' ⟨rfl, rfl⟩)
    go_ret
    exact ⟨rfl, _, rfl⟩
  · have hd : mdays y 2 = 29 := by simp [mdays, hl]
    go_enter Try.func3, Try.ntmps3
    go_wp2_with (go_at_call 8; refine (md _ _ (by omega) (by omega) _).mono ?_; rintro e w' ⟨rfl, rfl⟩)
    go_quiet (fail)
    go_wp2_with (go_at_call 9; refine (greg _ _).mono ?_; rintro e w' ⟨rfl, rfl⟩)
    go_ret
    exact ⟨rfl, _, rfl⟩

theorem closed (y m : Int) (w : World) :
    Calls Try.prog 3 #[.int .i64 y, .int .i64 m] w fun e w' => e = .returned (.bool true) ∧ ∃ n, w' = w.drewN n := by
  by_cases ho : m < 1 ∨ 12 < m
  · exact (closed_out y m ho w).mono fun e w' ⟨h1, h2⟩ => ⟨h1, 0, h2⟩
  · by_cases h2 : m = 2
    · subst h2; exact closed_two y w
    · exact closed_other y m (by omega) (by omega) h2 w
end Go.Proofs.Qxb6602087a.cal
