import Derived.Test.Qxb6000536aFlo
namespace Go.Proofs.Qxb6000536a.ck
open Go.RowKit Go.Lib Go.Maps Go.ChangeMaps Go.WideMaps
set_option linter.unusedVariables false
variable {w W W' : World} {r n N : Nat} {O : Nat → Nat → Prop} {b : Nat → Nat} {A : Nat → Clk}

theorem field_base (x : Int) (v : Value) (w : World) : (Instr.field 36 (.agg #[.int .u64 x, v]) 0).run Try.prog w = .ok (.int .u64 x) w := by
  simp [Instr.field, run_underlying Try.underlying36, Result.andThen, part, isAgg, run_underlying Try.underlying32, asAgg]
theorem same_str (k k' : Key) : (Lit.string k).sameKey (.string k') = decide (k = k') := by
  by_cases e : k = k'
  · subst e; rw [decide_eq_true rfl]; exact WideAt.sameKey_self trivial
  · rw [decide_eq_false e]; exact sameKey_ne (by simp [e])

/-- In the middle of Floor's range: the nodes that came have their entry. -/
def FloRel (w : World) (F : Key → Int) (D : DataW Value) (b0 N : Nat) (wr : World) : Prop :=
  ∃ (left : Lit → Bool) (cnt M : Nat), wr.ranges Try.prog 9 raw b0 (w.heap.size + 1) N D left cnt ∧
    MapOn wr w.heap.size M (.int .u64 0) (fun k => .int .u64 (if left (.string k) = true then 0 else F k)) (fun k => !left (.string k) && decide (0 < F k)) ∧ M + cnt ≤ N ∧ w.grownBy wr none

theorem MapOn.congr {b N : Nat} {z : Value} {V V' : Key → Value} {dom dom' : Key → Bool} (h : MapOn W b N z V dom) (hV : ∀ k, V k = V' k) (hd : ∀ k, dom k = dom' k) : MapOn W b N z V' dom' := by
  have e1 : V = V' := funext hV
  have e2 : dom = dom' := funext hd
  rw [← e1, ← e2]; exact h

set_option maxHeartbeats 4000000 in
set_option maxRecDepth 100000 in
/-- Floor of no clocks. -/
theorem floor_none (w : World) (a : Option Addr) (c : Nat) :
    Calls Try.prog 21 #[.slice a 0 c] w fun e w' => e = .returned (.map (some w.heap.size)) ∧ MapOn w' w.heap.size 0 (.int .u64 0) (fun k => .int .u64 0) (fun k => false) ∧ w.grownBy w' none := by
  have hmm := @run_makeMap Try.prog
  go_enter Try.func21, Try.ntmps21
  go_wp2_with fail
  go_ret
  exact ⟨rfl, MapOn.made _ _, World.grownBy_alloc _ _ _⟩

set_option maxHeartbeats 4000000 in
set_option maxRecDepth 100000 in
/-- Floor. -/
theorem floor_some (h : Cks w r n N O b A) (hN : N < 1000000000000) (hn0 : 0 < n) (hn : n < 1000000000000) :
    Calls Try.prog 21 #[.slice (some ⟨r, 0, none⟩) n n] w fun e w' => e = .returned (.map (some w.heap.size)) ∧
      MapOn w' w.heap.size N (.int .u64 0) (fun k => .int .u64 (floF A n k)) (fun k => decide (0 < floF A n k)) ∧ w.grownBy w' none := by
  have hmm := @run_makeMap Try.prog
  have e1 : (w.alloc (.map #[] 0)).heap.size = w.heap.size + 1 := by simp
  obtain ⟨D, sv, hI⟩ := h.clk 0 hn0
  have H : Hid (Cks w r n N O b A ∧ ClockIs w (O 0) (b 0) N (A 0) D sv ∧ r < w.heap.size ∧ b 0 < w.heap.size) := ⟨h, hI, h.rlt, hI.lt _ hI.inb⟩
  have hd0 : ((n : Int) == 0) = false := by simp; omega
  have k0 : (w.alloc (.map #[] 0)).cell? ⟨r, 0, none⟩ = some (.map (some (b 0))) := by
    rw [World.cell?_of_block (w := w) (a := ⟨r, 0, none⟩) (heap_alloc_old w _ h.rlt)]; exact h.cell 0 hn0
  have hp0 : (0 : Int) < (n : Int) := by omega
  have hq : (∀ k, floF A n k ≤ (A 0 k).1) ∧ (∀ k, 0 ≤ floF A n k) ∧ ∀ k, floF A n k = floAt A k (n - 1) := ⟨fun k => floF_le A n k 0 hn0, fun k => floF_pos A n k (fun i hi => h.canon k i hi), fun k => by unfold floF; rw [if_neg (by omega)]⟩
  obtain ⟨F, hF⟩ : ∃ F, F = floF A n := ⟨_, rfl⟩
  obtain ⟨m, hm⟩ : ∃ m, m = n - 1 := ⟨_, rfl⟩
  rw [← hF, ← hm] at hq
  rw [← hF]
  have HM : Hid (m = n - 1 ∧ (∀ k, F k ≤ (A 0 k).1) ∧ (∀ k, 0 ≤ F k) ∧ ∀ k, F k = floAt A k m) := ⟨hm, hq⟩
  clear h hI hF hm hq
  by_cases hn1 : n = 1
  all_goals try subst hn1
  all_goals
    go_enter Try.func21, Try.ntmps21
    go_wp2_with (first
      | (at_range; refine wpList_range_own _ rfl _ 29 rfl 9 36 law9 Try.underlying29 raw (b 0) N D rfl (H.out.2.1.own.alloc _) ?_; intro w0 hrg0 hg0 hs0)
      | go_in)
    go_frame
    rw [e1] at hrg0 hs0 ⊢
    have H0 : Hid (FloRel w F D (b 0) N w0) := by
      refine ⟨_, _, 0, hrg0, ((MapOn.made w (.int .u64 0)).grown hg0).congr (fun k => ?_) (fun k => ?_), ?_, (World.grownBy_alloc w _ none).trans hg0⟩
      · by_cases e : Maps.has D (.string k) = true
        · rw [if_pos e]
        · have hz : A 0 k = (0, []) := by
            by_cases e' : A 0 k = (0, [])
            · exact e'
            · exact absurd ((H.out.2.1.has k).2 e') e
          have h1 := HM.out.2.1 k
          have h2 := HM.out.2.2.1 k
          rw [hz] at h1
          have h3 : F k = 0 := by simp only at h1; omega
          rw [if_neg e, h3]
      · by_cases e : Maps.has D (.string k) = true
        · rw [e]; rfl
        · have hz : A 0 k = (0, []) := by
            by_cases e' : A 0 k = (0, [])
            · exact e'
            · exact absurd ((H.out.2.1.has k).2 e') e
          have h1 := HM.out.2.1 k
          rw [hz] at h1
          have h3 : ¬ 0 < F k := by simp only at h1; omega
          rw [decide_eq_false h3, Bool.and_false]
      · have := H.out.2.1.own.size_le; omega
    clear hg0 hrg0 hs0 e1 k0 hmm
    go_loopw [4] (fun _ wr => FloRel w F D (b 0) N wr) (fun _ wr => wr.rangeLeft (b 0) (w.heap.size + 1))
    case atStart => exact H0.out
    case round =>
      obtain ⟨left, cnt, M, hrg, hmp, hle, hgr⟩ := hrel
      have HR : Hid (MapOn wr w.heap.size M (.int .u64 0) (fun k => .int .u64 (if left (.string k) = true then 0 else F k)) (fun k => !left (.string k) && decide (0 < F k)) ∧ M + cnt ≤ N ∧ w.grownBy wr none) := ⟨hmp, hle, hgr⟩
      clear hmp hle hgr
      go_wp2_with (first
        | (at_next; refine wpList_next_ranges _ rfl _ rfl 9 law9 raw Value.string id (fun key kl hkey => by obtain ⟨x, rfl, _⟩ := string_of_keyOf Try.underlying9 hkey; exact ⟨x, rfl⟩) (fun v y _ => ⟨v, rfl⟩) (b 0) (w.heap.size + 1) N _ _ _ rfl hrg ?_ ?_)
        | go_in)
      · intro hc0 hl0
        go_wp2
        go_ret
        refine ⟨rfl, ?_, HR.out.2.2⟩
        obtain ⟨D', h'⟩ := HR.out.1
        have hm : M ≤ N := by have := HR.out.2.1; omega
        exact MapOn.congr ⟨D', h'.own.mono hm, h'.at_, h'.has, h'.str⟩ (fun k => by rw [hl0]; rfl) (fun k => by rw [hl0]; rfl)
      · intro x c kl y ps w1 cnt1 hkey hlk hraw hat hrg1 hlt hg1 hs1 hen
        obtain ⟨x', hx', rfl, hxs⟩ := string_of_keyOf Try.underlying9 hkey
        cases hx'
        have hy := raw_inv hraw
        simp only [Prod.mk.injEq] at hy
        have hc := hat (.held zeroSeen)
        rw [H.out.2.1.at_, hy.1] at hc
        simp only [DataW.held.injEq] at hc
        obtain ⟨a5, cap5, hv5, _⟩ := row_form (H.out.2.1.row x.data.toList)
        rw [hv5] at hc
        subst hc
        have HX : Hid (left (.string x.data.toList) = true ∧ wr.ranges Try.prog 9 raw (b 0) (w.heap.size + 1) N D left cnt ∧ w1.ranges Try.prog 9 raw (b 0) (w.heap.size + 1) N D (fun z => left z && !z.sameKey (.string x.data.toList)) cnt1 ∧ cnt1 < cnt ∧ wr.grownBy w1 (some (w.heap.size + 1)) ∧ w.grownBy w1 none) :=
          ⟨hlk, hrg, hrg1, hlt, hg1, HR.out.2.2.andThen hg1 (fun j hj => by cases hj; exact .inl (Nat.le_succ _))⟩
        clear hlk hrg hrg1 hlt hg1 hs1 hat hraw hy hv5 hkey
        go_wp2_with fail
        obtain ⟨w2, hw2⟩ : ∃ w2, w2 = w1.alloc (.cells #[.int .u64 (A 0 x.data.toList).1, .slice a5 (A 0 x.data.toList).2.length cap5] 36) := ⟨_, rfl⟩
        have HY : Hid (w1.grownBy w2 none) := by rw [hw2]; exact World.grownBy_alloc _ _ _
        rw [← hw2]
        clear hw2 hen
        go_loopw [6, 28] (fun s6 s28 wr => ∃ j : Nat, s6 = .int .u64 (floAt A x.data.toList j) ∧ s28 = .int .i64 j ∧ j ≤ m ∧ wr = w2) (fun _ s28 _ => m - (intOf s28).toNat)
        case atStart => exact ⟨0, rfl, rfl, Nat.zero_le _, rfl⟩
        case round =>
          obtain ⟨j, rfl, rfl, hj, rfl⟩ := hrel
          have HZ : Hid (w.grownBy wr none) := HX.out.2.2.2.2.2.trans HY.out
          by_cases hjl : j < m
          · first
              | exact absurd hjl (by have := HM.out.1; omega)
              | skip
            all_goals
              have hjn : j + 1 < n := by have := HM.out.1; omega
              have p1 : (j : Int) < ((n - 1 : Nat) : Int) := by omega
              have k1 : wr.cell? ⟨r, 1 + j, none⟩ = some (.map (some (b (j + 1)))) := by rw [Nat.add_comm]; exact (H.out.1.grown HZ.out).cell (j + 1) hjn
              obtain ⟨D', sv', hI'⟩ := (H.out.1.grown HZ.out).clk (j + 1) hjn
              have lk := hI'.look x hxs
              obtain ⟨a6, cap6, hv6, _⟩ := row_form (hI'.row x.data.toList)
              rw [hv6] at lk
              clear hI' hv6
              have HN : Hid (floAt A x.data.toList (j + 1) = if (A (j + 1) x.data.toList).1 < floAt A x.data.toList j then (A (j + 1) x.data.toList).1 else floAt A x.data.toList j) := by
                show min (floAt A x.data.toList j) (A (j + 1) x.data.toList).1 = _
                split
                · exact Int.min_eq_right (by omega)
                · exact Int.min_eq_left (by omega)
              have hfd := @field_base
              by_cases hyx : (A (j + 1) x.data.toList).1 < floAt A x.data.toList j
              · go_wp2_with fail
                exact ⟨⟨j + 1, by rw [HN.out, if_pos hyx], by go_num, by omega, trivial⟩, by simp [intOf]; omega⟩
              · go_wp2_with fail
                exact ⟨⟨j + 1, by rw [HN.out, if_neg hyx], by go_num, by omega, trivial⟩, by simp [intOf]; omega⟩
          · have hje : j = m := by omega
            subst hje
            rw [← HM.out.2.2.2]
            first
              | (have q : ¬ (j : Int) < ((n - 1 : Nat) : Int) := by (have := HM.out.1; omega))
              | skip
            have hmp1 := (HR.out.1.kept HX.out.2.2.2.2.1 (by simp)).grown HY.out
            have hMl : M < maxLen := by have := HR.out.2.1; unfold maxLen; omega
            have hrgW := HX.out.2.2.1.kept HY.out (by simp) (by simp)
            have hcm := HX.out.2.2.2.1
            have hMN := HR.out.2.1
            have hb0 := H.out.2.2.2
            by_cases hpos : 0 < F x.data.toList
            · obtain ⟨W', hrun, hgW, hmpW⟩ := hmp1.put Try.underlying47 hMl x hxs (.int .u64 (F x.data.toList))
              have HE : Hid (FloRel w F D (b 0) N W' ∧ W'.rangeLeft (b 0) (w.heap.size + 1) = cnt1) := by
                have h1 := hrgW.kept hgW (by simp; omega) (by simp)
                refine ⟨⟨_, _, M + 1, h1, hmpW.congr (fun k => ?_) (fun k => ?_), by omega, HZ.out.andThen hgW (fun j hj => by cases hj; exact .inl (Nat.le_refl _))⟩, h1.left_eq⟩
                · by_cases e : k = x.data.toList
                  · subst e; simp [same_str]
                  · simp [same_str, e]
                · by_cases e : k = x.data.toList
                  · subst e; simp [same_str, hpos]
                  · simp [same_str, e]
              clear hgW hmpW hmp1 hrgW
              go_wp2_with fail
              refine ⟨HE.out.1, ?_⟩
              rw [HE.out.2, HX.out.2.1.left_eq]; exact hcm
            · have hz : F x.data.toList = 0 := by have := HM.out.2.2.1 x.data.toList; omega
              have HE : Hid (FloRel w F D (b 0) N wr ∧ wr.rangeLeft (b 0) (w.heap.size + 1) = cnt1) := by
                refine ⟨⟨_, _, M, hrgW, hmp1.congr (fun k => ?_) (fun k => ?_), by omega, HZ.out⟩, hrgW.left_eq⟩
                · by_cases e : k = x.data.toList
                  · subst e; simp [same_str, hz]
                  · simp [same_str, e]
                · by_cases e : k = x.data.toList
                  · subst e; simp [same_str, hz]
                  · simp [same_str, e]
              clear hmp1 hrgW hz
              go_wp2_with fail
              refine ⟨HE.out.1, ?_⟩
              rw [HE.out.2, HX.out.2.1.left_eq]; exact hcm
end Go.Proofs.Qxb6000536a.ck
