import Derived.Test.Qxb6000536aHas
namespace Go.Proofs.Qxb6000536a.ck
open Go.RowKit Go.Lib Go.Maps
set_option linter.unusedVariables false

def eqB (S T : Sn) : Bool := decide (S = T)

theorem take_step (S T : List Int) (i : Nat) (h1 : i < S.length) (h2 : i < T.length) (h : S.take i = T.take i) (e : S.getD i 0 = T.getD i 0) : S.take (i + 1) = T.take (i + 1) := by
  have e' : S[i] = T[i] := by simpa [List.getD_eq_getElem?_getD, List.getElem?_eq_getElem h1, List.getElem?_eq_getElem h2] using e
  rw [List.take_succ_eq_append_getElem h1, List.take_succ_eq_append_getElem h2, h, e']

set_option maxHeartbeats 4000000 in
set_option maxRecDepth 100000 in
/-- seenEq. -/
theorem seenEq_any (w : World) (v1 v2 : Value) (S T : Sn) (hS : w.ownsRow 0 32 1 v1 S.2.length (U S.2)) (hT : w.ownsRow 0 32 1 v2 T.2.length (U T.2)) (hS2 : S.2.length < 1000000000000) (hT2 : T.2.length < 1000000000000) :
    Calls Try.prog 15 #[.agg #[.int .u64 S.1, v1], .agg #[.int .u64 T.1, v2]] w fun e w' => e = .returned (.bool (eqB S T)) ∧ w.grownBy w' none := by
  obtain ⟨a1, c1, rfl, f1⟩ := row_form hS
  obtain ⟨a2, c2, rfl, f2⟩ := row_form hT
  have HO : Hid (w.ownsRow 0 32 1 (.slice a1 S.2.length c1) S.2.length (U S.2) ∧ w.ownsRow 0 32 1 (.slice a2 T.2.length c2) T.2.length (U T.2)) := ⟨hS, hT⟩
  clear hS hT
  by_cases hb : S.1 = T.1
  · by_cases hl : S.2.length = T.2.length
    · have hbb : (S.1 != T.1) = false := by simp [hb]
      have hlb : ((S.2.length : Int) != (T.2.length : Int)) = false := by simp [hl]
      have HL : Hid (S.1 = T.1 ∧ S.2.length = T.2.length) := ⟨hb, hl⟩
      clear hb hl
      go_enter Try.func15, Try.ntmps15
      go_wp2_with fail
      go_loopw [5] (fun s5 wr => ∃ i : Nat, s5 = .int .i64 i ∧ i ≤ S.2.length ∧ S.2.take i = T.2.take i ∧ Box2 w (.cells #[.int .u64 S.1, .slice a1 S.2.length c1] 36) (.cells #[.int .u64 T.1, .slice a2 T.2.length c2] 36) wr) (fun s5 _ => S.2.length - (intOf s5).toNat)
      case atStart => exact ⟨0, rfl, Nat.zero_le _, by simp, Box2.start _ _ _⟩
      case round =>
        obtain ⟨i, rfl, hi, htk, hbx⟩ := hrel
        have k1 : wr.cell? ⟨w.heap.size, 1, none⟩ = some (.slice a1 S.2.length c1) := by rw [cell_of_row _ _ _ _ _ _ hbx.b1]; rfl
        have k2 : wr.cell? ⟨w.heap.size + 1, 1, none⟩ = some (.slice a2 T.2.length c2) := by rw [cell_of_row _ _ _ _ _ _ hbx.b2]; rfl
        have HX : Hid (S.2.take i = T.2.take i ∧ Box2 w (.cells #[.int .u64 S.1, .slice a1 S.2.length c1] 36) (.cells #[.int .u64 T.1, .slice a2 T.2.length c2] 36) wr) := ⟨htk, hbx⟩
        clear htk hbx
        by_cases hlt : i < S.2.length
        · have hlt2 : i < T.2.length := by have := HL.out; omega
          obtain ⟨g1, rfl⟩ : ∃ g, a1 = some ⟨g, 0, none⟩ := by
            rcases f1 with rfl | h
            · rcases HO.out.1.2 with ⟨_, h0⟩ | ⟨g, cp, cur, hh, _⟩
              · omega
              · simp at hh
            · exact h
          obtain ⟨g2, rfl⟩ : ∃ g, a2 = some ⟨g, 0, none⟩ := by
            rcases f2 with rfl | h
            · rcases HO.out.2.2 with ⟨_, h0⟩ | ⟨g, cp, cur, hh, _⟩
              · omega
              · simp at hh
            · exact h
          have c1' : wr.cell? ⟨g1, i, none⟩ = some (.int .u64 (S.2.getD i 0)) := by
            rw [HX.out.2.gr.cell_far ⟨g1, i, none⟩ (HO.out.1.lt g1 rfl).2 (by simp)]; exact own_cell HO.out.1 rfl i hlt
          have c2' : wr.cell? ⟨g2, i, none⟩ = some (.int .u64 (T.2.getD i 0)) := by
            rw [HX.out.2.gr.cell_far ⟨g2, i, none⟩ (HO.out.2.lt g2 rfl).2 (by simp)]; exact own_cell HO.out.2 rfl i hlt2
          have q1 : (i : Int) < (S.2.length : Int) := by omega
          have q2 : (i : Int) < (T.2.length : Int) := by omega
          have q3 : (0 : Int) ≤ (i : Int) := by omega
          by_cases he : S.2.getD i 0 = T.2.getD i 0
          · have HT : Hid (S.2.take (i + 1) = T.2.take (i + 1)) := take_step S.2 T.2 i hlt hlt2 HX.out.1 he
            have hne : (S.2.getD i 0 != T.2.getD i 0) = false := by rw [bne_eq_false_iff_eq]; exact he
            clear he
            generalize S.2.getD i 0 = x at *
            generalize T.2.getD i 0 = y at *
            go_wp2_with fail
            go_quiet (fail)
            go_wp2_with fail
            exact ⟨⟨i + 1, by go_num, by omega, HT.out, HX.out.2.more ⟨rfl, rfl, rfl, Nat.le_refl _, fun _ _ _ => rfl⟩⟩, by simp [intOf]; omega⟩
          · have HF : Hid (false = eqB S T) := by
              show false = eqB S T
              symm
              exact decide_eq_false fun e => he (by rw [e])
            have hne : (S.2.getD i 0 != T.2.getD i 0) = true := by rw [bne_iff_ne]; exact he
            clear he
            generalize S.2.getD i 0 = x at *
            generalize T.2.getD i 0 = y at *
            go_wp2_with fail
            go_quiet (fail)
            go_wp2_with fail
            go_ret
            exact ⟨ret_bool HF.out, HX.out.2.gr.trans ⟨rfl, rfl, rfl, Nat.le_refl _, fun _ _ _ => rfl⟩⟩
        · have HF : Hid (true = eqB S T) := by
            show true = eqB S T
            symm
            refine decide_eq_true (Prod.ext HL.out.1 ?_)
            have := HX.out.1
            rwa [List.take_of_length_le (by omega), List.take_of_length_le (by have := HL.out; omega)] at this
          go_wp2_with fail
          go_ret
          exact ⟨ret_bool HF.out, HX.out.2.gr⟩
    · have HF : Hid (false = eqB S T) := by
        show false = eqB S T
        symm
        exact decide_eq_false fun e => hl (by rw [e])
      have hbb : (S.1 != T.1) = false := by simp [hb]
      have hlb : ((S.2.length : Int) != (T.2.length : Int)) = true := by rw [bne_iff_ne]; omega
      clear hb hl
      go_enter Try.func15, Try.ntmps15
      go_wp2_with fail
      go_ret
      exact ⟨ret_bool HF.out, grown_alloc2 _ _ _ _⟩
  · have HF : Hid (false = eqB S T) := by
      show false = eqB S T
      symm
      exact decide_eq_false fun e => hb (by rw [e])
    have hbb : (S.1 != T.1) = true := by rw [bne_iff_ne]; exact hb
    clear hb
    go_enter Try.func15, Try.ntmps15
    go_wp2_with fail
    go_ret
    exact ⟨ret_bool HF.out, grown_alloc2 _ _ _ _⟩
end Go.Proofs.Qxb6000536a.ck
