import Derived.Test.Qxb6602087aCycMath
namespace Go.Proofs.Qxb6602087a.cal
open Go.ChangeShapes Go.WideShapes Go.ChangeAt Go.RowKit

theorem i64_bd (a : Int) (w : (Lit.int .i64 a).wf = true) : -9223372036854775808 ≤ a ∧ a ≤ 9223372036854775807 := by
  have h : IntKind.i64.min ≤ a ∧ a ≤ IntKind.i64.max := by simpa [Lit.wf] using w
  exact ⟨Int.le_trans (by decide) h.1, Int.le_trans h.2 (by decide)⟩

set_option maxRecDepth 100000 in
set_option maxHeartbeats 800000 in
theorem cyc_walk (a0 : Int) (w0 : (Lit.int .i64 a0).wf = true) (w : World) :
    Calls Try.prog 4 #[.int .i64 a0] w fun e w' => e = .returned (.bool true) ∧ w' = w := by
  obtain ⟨hlo, hhi⟩ := i64_bd a0 w0
  clear w0
  by_cases hg : 9223372036854775408 < a0
  · go_enter Try.func4, Try.ntmps4
    go_wp2
    go_ret
    exact ⟨rfl, rfl⟩
  go_enter Try.func4, Try.ntmps4
  go_wp2_with fail
  go_loop [3, 4] (fun t k => ∃ n : Nat, n ≤ 400 ∧ k = .int .i64 n ∧ t = .int .i64 (tot a0 n)) (fun _ k => 400 - (intOf k).toNat)
  case atStart => exact ⟨0, by omega, rfl, by rw [tot_zero]⟩
  case round =>
    obtain ⟨n, hn, rfl, rfl⟩ := hrel
    have hb := tot_bd a0 n
    by_cases hlt : n < 400
    · go_wp2_with fail
      go_loop [5, 6] (fun t k => ∃ j : Nat, j ≤ 12 ∧ k = .int .i64 (j + 1) ∧ t = .int .i64 (ysum (a0 + n) j)) (fun _ k => 13 - (intOf k).toNat)
      case atStart => exact ⟨0, by omega, rfl, rfl⟩
      case round =>
        obtain ⟨j, hj, rfl, rfl⟩ := hrel
        have hy := ysum_bd (a0 + n) j
        have hm := mdays_bd (a0 + n) (j + 1)
        by_cases hl2 : j < 12
        · go_wp2_with (go_at_call 8; refine (md _ _ (by omega) (by omega) _).mono ?_; rintro e w' ⟨rfl, rfl⟩)
          go_round
          case rel => exact ⟨j + 1, by omega, by go_num, rfl⟩
          case measure => simp [intOf]; omega
        · obtain rfl : j = 12 := by omega
          have hs := ysum_12 (a0 + n)
          have ht := mdays_two (a0 + n)
          have hts := tot_succ a0 n
          rcases lp_01 (a0 + n) with h0 | h0
          · rw [h0] at hs ht hts
            have HT := (id hts : Hid (tot a0 (n + 1) = _)); clear hts
            go_wp2_with (go_at_call 8; refine (md _ _ (by omega) (by omega) _).mono ?_; rintro e w' ⟨rfl, rfl⟩)
            go_round
            case rel => exact ⟨n + 1, by omega, by go_num, by rw [HT.out]; go_num⟩
            case measure => simp [intOf]; omega
          · rw [h0] at hs ht hts
            have HT := (id hts : Hid (tot a0 (n + 1) = _)); clear hts
            go_wp2_with (go_at_call 8; refine (md _ _ (by omega) (by omega) _).mono ?_; rintro e w' ⟨rfl, rfl⟩)
            go_round
            case rel => exact ⟨n + 1, by omega, by go_num, by rw [HT.out]; go_num⟩
            case measure => simp [intOf]; omega
    · obtain rfl : n = 400 := by omega
      have ht := tot_400 a0
      go_wp2_with fail
      go_ret
      exact ⟨rfl, rfl⟩
end Go.Proofs.Qxb6602087a.cal
