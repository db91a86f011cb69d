import Derived.Test.Qxb6602087aDigMath
namespace Go.Proofs.Qxb6602087a.dig
open Go.ChangeShapes Go.WideShapes Go.ChangeAt Go.RowKit

theorem ret_int {k : IntKind} {a b : Int} (h : a = b) : Ending.returned (.int k a) = .returned (.int k b) := by rw [h]

set_option maxRecDepth 100000 in
set_option maxHeartbeats 800000 in
theorem digits_any (s : ByteArray) (w : World) (hs : s.size ≤ maxLen) :
    Calls Try.prog 15 #[.string s] w fun e w' => e = .returned (.int .i64 (digv s.data.toList)) ∧ w' = w := by
  unfold maxLen at hs
  go_enter Try.func15, Try.ntmps15
  go_wp2
  go_loop [3, 4] (fun n i => ∃ k : Nat, k ≤ s.size ∧ i = .int .i64 k ∧ (s.data.toList.take k).all isDig = true ∧ n = .int .i64 (wrap64 (pv (s.data.toList.take k)))) (fun _ i => s.size - (intOf i).toNat)
  case atStart => exact ⟨0, Nat.zero_le _, rfl, by simp, by simp [pv, pvFrom, wrap64]⟩
  case round =>
    obtain ⟨k, hk, rfl, hall, rfl⟩ := hrel
    have HA := (id hall : Hid ((s.data.toList.take k).all isDig = true))
    clear hall
    by_cases hlt : k < s.size
    · by_cases h1 : (s[k].toNat : Int) < 48
      · have hd : isDig s[k] = false := by simp [isDig]; omega
        have HF := (id (show (-1 : Int) = digv s.data.toList by rw [digv, not_all s k hlt hd]; rfl) : Hid ((-1 : Int) = digv s.data.toList))
        clear hd
        go_wp2
        go_ret
        exact ⟨ret_int HF.out, rfl⟩
      · by_cases h2 : 57 < (s[k].toNat : Int)
        · have hd : isDig s[k] = false := by simp [isDig]; omega
          have HF := (id (show (-1 : Int) = digv s.data.toList by rw [digv, not_all s k hlt hd]; rfl) : Hid ((-1 : Int) = digv s.data.toList))
          clear hd
          go_wp2
          go_ret
          exact ⟨ret_int HF.out, rfl⟩
        · go_wp2
          go_round
          case rel =>
            have hd : isDig s[k] = true := by simp [isDig]; omega
            refine ⟨k + 1, by omega, by go_num, by rw [all_snoc s k hlt, HA.out, hd]; rfl, ?_⟩
            rw [horner, take_snoc s k hlt, pv_snoc]
          case measure => simp [intOf]; omega
    · have HF := (id (show wrap64 (pv (s.data.toList.take k)) = digv s.data.toList by
        have h := HA.out
        rw [List.take_of_length_le (by simp; omega)] at h ⊢
        rw [digv, h]; rfl) : Hid (wrap64 (pv (s.data.toList.take k)) = digv s.data.toList))
      go_wp2
      go_ret
      exact ⟨ret_int HF.out, rfl⟩

/-- ZZdigits hands on. -/
theorem zz_any (s : ByteArray) (w : World) (hs : s.size ≤ maxLen) :
    Calls Try.prog 11 #[.string s] w fun e w' => e = .returned (.int .i64 (digv s.data.toList)) ∧ w' = w := by
  go_enter Try.func11, Try.ntmps11
  go_wp2_with (go_at_call 15; refine (digits_any _ _ hs).mono ?_; rintro e w' ⟨rfl, rfl⟩)
  go_ret
  exact ⟨rfl, rfl⟩

set_option maxRecDepth 100000 in
set_option maxHeartbeats 800000 in
theorem model_any (s : ByteArray) (w : World) (hs : s.size ≤ maxLen) :
    Calls Try.prog 12 #[.string s] w fun e w' => e = .returned (.int .i64 (digv s.data.toList)) ∧ w' = w := by
  unfold maxLen at hs
  go_enter Try.func12, Try.ntmps12
  go_wp2
  go_loop [3] (fun i => ∃ k : Nat, k ≤ s.size ∧ i = .int .i64 k ∧ (s.data.toList.take k).all isDig = true) (fun i => s.size - (intOf i).toNat)
  case atStart => exact ⟨0, Nat.zero_le _, rfl, by simp⟩
  case round =>
    obtain ⟨k, hk, rfl, hall⟩ := hrel
    have HA := (id hall : Hid ((s.data.toList.take k).all isDig = true))
    clear hall
    by_cases hlt : k < s.size
    · by_cases h1 : 48 ≤ (s[k].toNat : Int)
      · by_cases h2 : (s[k].toNat : Int) ≤ 57
        · go_wp2
          go_round
          case rel =>
            have hd : isDig s[k] = true := by simp [isDig]; omega
            exact ⟨k + 1, by omega, by go_num, by rw [all_snoc s k hlt, HA.out, hd]; rfl⟩
          case measure => simp [intOf]; omega
        · have hd : isDig s[k] = false := by simp [isDig]; omega
          have HF := (id (show (-1 : Int) = digv s.data.toList by rw [digv, not_all s k hlt hd]; rfl) : Hid ((-1 : Int) = digv s.data.toList))
          clear hd
          go_wp2
          go_ret
          exact ⟨ret_int HF.out, rfl⟩
      · have hd : isDig s[k] = false := by simp [isDig]; omega
        have HF := (id (show (-1 : Int) = digv s.data.toList by rw [digv, not_all s k hlt hd]; rfl) : Hid ((-1 : Int) = digv s.data.toList))
        clear hd
        go_wp2
        go_ret
        exact ⟨ret_int HF.out, rfl⟩
    · have HF := (id (show wrap64 (pv s.data.toList) = digv s.data.toList ∧ s.data.toList.all isDig = true by
        have h := HA.out
        rw [List.take_of_length_le (by simp; omega)] at h
        rw [digv, h]; exact ⟨rfl, rfl⟩) : Hid (wrap64 (pv s.data.toList) = digv s.data.toList ∧ s.data.toList.all isDig = true))
      clear HA
      go_wp2
      go_loop [4, 5, 6] (fun v p i => ∃ k : Nat, k ≤ s.size ∧ i = .int .i64 ((k : Int) - 1) ∧ p = .int .i64 (wrap64 (10 ^ (s.size - k))) ∧ v = .int .i64 (wrap64 (pv (s.data.toList.drop k)))) (fun _ _ i => (intOf i + 1).toNat)
      case atStart => exact ⟨s.size, Nat.le_refl _, by go_num, by simp [wrap64], by rw [List.drop_of_length_le (by simp)]; simp [pv, pvFrom, wrap64]⟩
      case round =>
        obtain ⟨j, hj, rfl, rfl, rfl⟩ := hrel
        by_cases h0 : j = 0
        · subst h0
          go_wp2
          go_ret
          exact ⟨ret_int HF.out.1, rfl⟩
        · obtain ⟨i, rfl⟩ : ∃ i, j = i + 1 := ⟨j - 1, by omega⟩
          have hi : i < s.size := by omega
          have hd : 48 ≤ (s[i].toNat : Int) ∧ (s[i].toNat : Int) ≤ 57 := by
            have := List.all_eq_true.1 HF.out.2 s[i] (List.mem_of_mem_drop (i := i) (by rw [drop_cons s i hi]; simp))
            simpa [isDig] using this
          have e1 : (((i + 1 : Nat) : Int) - 1) = (i : Int) := by omega
          rw [e1]
          clear e1
          go_wp2
          go_round
          case rel =>
            refine ⟨i, by omega, rfl, ?_, ?_⟩
            · rw [ten, ← Int.pow_succ, show (s.size - (i + 1)).succ = s.size - i by omega]
            · rw [rtl, drop_cons s i hi, pv_cons, List.length_drop, show s.data.toList.length = s.size from by simp, Int.add_comm]
          case measure => simp [intOf]

set_option maxRecDepth 100000 in
set_option maxHeartbeats 800000 in
theorem bytes_any (s : ByteArray) (w : World) (hs : s.size ≤ maxLen) :
    Calls Try.prog 10 #[.string s] w fun e w' => e = .returned (.bool (decide (s.size ≤ 1048576))) ∧ w' = w := by
  unfold maxLen at hs
  by_cases h : s.size ≤ 1048576
  · have hd : decide (s.size ≤ 1048576) = true := decide_eq_true h
    have hn : (s.size : Int) ≤ 1048576 := by omega
    rw [hd]; clear hd
    go_enter Try.func10, Try.ntmps10
    go_wp2
    go_ret
    exact ⟨rfl, rfl⟩
  · have hd : decide (s.size ≤ 1048576) = false := decide_eq_false h
    have hn : 1048576 < (s.size : Int) := by omega
    rw [hd]; clear hd
    go_enter Try.func10, Try.ntmps10
    go_wp2
    go_ret
    exact ⟨rfl, rfl⟩

set_option maxRecDepth 100000 in
set_option maxHeartbeats 800000 in
theorem match_any (s : ByteArray) (w : World) (hs : s.size ≤ maxLen) :
    Calls Try.prog 5 #[.string s] w fun e w' => e = .returned (.bool true) ∧ w' = w := by
  have hs' := hs
  unfold maxLen at hs'
  by_cases h : s.size ≤ 1048576
  · have hd : decide (s.size ≤ 1048576) = true := decide_eq_true h
    have hn : (s.size : Int) ≤ 1048576 := by omega
    generalize hv : digv s.data.toList = v at *
    go_enter Try.func5, Try.ntmps5
    go_wp2_with fail
    refine (bytes_any _ _ hs).mono ?_
    rintro e w' ⟨rfl, rfl⟩
    go_wp2_with fail
    refine (zz_any _ _ hs).mono ?_
    rintro e w' ⟨rfl, rfl⟩
    go_wp2_with fail
    refine (model_any _ _ hs).mono ?_
    rintro e w' ⟨rfl, rfl⟩
    go_wp2_with fail
    go_ret
    exact ⟨rfl, rfl⟩
  · have hd : decide (s.size ≤ 1048576) = false := decide_eq_false h
    have hn : 1048576 < (s.size : Int) := by omega
    go_enter Try.func5, Try.ntmps5
    go_wp2_with fail
    refine (bytes_any _ _ hs).mono ?_
    rintro e w' ⟨rfl, rfl⟩
    go_wp2_with fail
    go_ret
    exact ⟨rfl, rfl⟩
end Go.Proofs.Qxb6602087a.dig
