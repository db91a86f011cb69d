import Derived.Test.Qxb6000536aFlo
namespace Go.Proofs.Qxb6000536a.ck
open Go.RowKit Go.Lib Go.Maps
set_option linter.unusedVariables false
variable {w W W' : World} {r n N : Nat} {O : Nat → Nat → Prop} {b : Nat → Nat} {A : Nat → Clk}

set_option maxHeartbeats 4000000 in
set_option maxRecDepth 100000 in
/-- allHave. -/
theorem allHave_any (h : Cks w r n N O b A) (hN : N < 1000000000000) (hn : n < 1000000000000) (s : ByteArray) (hs : s.size ≤ maxLen) (c : Int) :
    Calls Try.prog 30 #[.slice (some ⟨r, 0, none⟩) n n, .string s, .int .u64 c] w fun e w' => e = .returned (.bool (allB A s.data.toList c n)) ∧ w.grownBy w' none := by
  have H : Hid (Cks w r n N O b A) := h
  clear h
  go_enter Try.func30, Try.ntmps30
  go_wp2_with fail
  go_loopw [7] (fun s7 wr => ∃ j : Nat, s7 = .int .i64 j ∧ j ≤ n ∧ allB A s.data.toList c j = true ∧ w.grownBy wr none) (fun s7 _ => n - (intOf s7).toNat)
  case atStart => exact ⟨0, rfl, Nat.zero_le _, rfl, grown_refl _⟩
  case round =>
    obtain ⟨j, rfl, hj, hall, hg⟩ := hrel
    by_cases hlt : j < n
    · have HG : Hid (w.grownBy wr none ∧ allB A s.data.toList c (j + 1) = hasB (A j s.data.toList) c) := ⟨hg, by show (allB A s.data.toList c j && _) = _; rw [hall]; rfl⟩
      have k1 : wr.cell? ⟨r, j, none⟩ = some (.map (some (b j))) := (H.out.grown hg).cell j hlt
      have p1 : (j : Int) < (n : Int) := by omega
      clear hg hall
      go_wp2_with fail
      refine (clockHas (O := O j) (b := b j) (N := N) (A := A j) (by exact (H.out.grown HG.out.1).clk j hlt) hN s hs c).mono ?_
      rintro e w2 ⟨rfl, hg2⟩
      by_cases hh : hasB (A j s.data.toList) c = true
      · rw [hh]
        go_wp2_with fail
        exact ⟨⟨j + 1, by go_num, by omega, by rw [HG.out.2, hh], HG.out.1.trans hg2⟩, by simp [intOf]; omega⟩
      · have hf : hasB (A j s.data.toList) c = false := by simpa using hh
        have HF : Hid (allB A s.data.toList c n = false) := by
          show allB A s.data.toList c n = false
          cases hb : allB A s.data.toList c n
          · rfl
          · exact absurd ((hasB_iff _ _).2 ((allB_iff A s.data.toList c n).1 hb j hlt)) hh
        rw [hf]
        clear hh hf
        go_wp2_with fail
        go_ret
        exact ⟨by rw [HF.out]; rfl, HG.out.1.trans hg2⟩
    · have hje : j = n := by omega
      have HF : Hid (allB A s.data.toList c n = true ∧ w.grownBy wr none) := ⟨by rw [← hje]; exact hall, hg⟩
      clear hje hall hg
      go_wp2_with fail
      go_ret
      exact ⟨by rw [HF.out.1]; rfl, HF.out.2⟩

set_option maxHeartbeats 4000000 in
set_option maxRecDepth 100000 in
/-- prefixAll. -/
theorem prefixAll_any (h : Cks w r n N O b A) (hN : N < 1000000000000) (hn0 : 0 < n) (hn : n < 1000000000000) (s : ByteArray) (hs : s.size ≤ maxLen) (m : Nat) (hm : m < 1000000000000) (hF : floF A n s.data.toList ≤ m) :
    Calls Try.prog 22 #[.slice (some ⟨r, 0, none⟩) n n, .string s, .int .i64 m] w fun e w' => e = .returned (.int .u64 (floF A n s.data.toList)) ∧ w.grownBy w' none := by
  have H : Hid (Cks w r n N O b A ∧ ∀ j : Int, j ≤ floF A n s.data.toList → allB A s.data.toList (j + 1) n = decide (j < floF A n s.data.toList)) := ⟨h, fun j hj => allB_step A n _ hn0 (fun i hi => h.canon _ i hi) j hj⟩
  have hp := floF_pos A n s.data.toList (fun i hi => h.canon _ i hi)
  clear h
  obtain ⟨F, hFe⟩ : ∃ F, F = floF A n s.data.toList := ⟨_, rfl⟩
  rw [← hFe] at H hp hF ⊢
  clear hFe
  go_enter Try.func22, Try.ntmps22
  go_wp2_with fail
  go_loopw [7, 8] (fun s7 s8 wr => ∃ j : Nat, s7 = .int .u64 j ∧ s8 = .int .i64 j ∧ j ≤ m ∧ (j : Int) ≤ F ∧ w.grownBy wr none) (fun _ s8 _ => m - (intOf s8).toNat)
  case atStart => exact ⟨0, rfl, rfl, Nat.zero_le _, hp, grown_refl _⟩
  case round =>
    obtain ⟨j, rfl, rfl, hj, hjF, hg⟩ := hrel
    have HG : Hid (w.grownBy wr none) := hg
    clear hg
    by_cases hlt : j < m
    · have p1 : (j : Int) < (m : Int) := by omega
      go_wp2_with fail
      refine (allHave_any (O := O) (b := b) (A := A) (N := N) (by exact H.out.1.grown HG.out) hN hn s hs _).mono ?_
      rintro e w2 ⟨rfl, hg2⟩
      rw [H.out.2 _ hjF]
      by_cases hh : (j : Int) < F
      · rw [decide_eq_true hh]
        go_wp2_with fail
        exact ⟨⟨j + 1, by go_num, by go_num, by omega, by omega, HG.out.trans hg2⟩, by simp [intOf]; omega⟩
      · have hje : F = j := by omega
        rw [decide_eq_false hh]
        go_wp2_with fail
        go_ret
        exact ⟨by rw [hje]; rfl, HG.out.trans hg2⟩
    · have hje : F = j := by omega
      go_wp2_with fail
      go_ret
      exact ⟨by rw [hje]; rfl, HG.out⟩
end Go.Proofs.Qxb6000536a.ck
