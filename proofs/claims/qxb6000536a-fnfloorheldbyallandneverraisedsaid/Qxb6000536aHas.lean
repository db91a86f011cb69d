import Derived.Test.Qxb6000536aAdd
namespace Go.Proofs.Qxb6000536a.ck
open Go.RowKit Go.Lib Go.Maps
set_option linter.unusedVariables false

theorem ret_bool {a b : Bool} (h : a = b) : Ending.returned (.bool a) = .returned (.bool b) := by rw [h]

set_option maxHeartbeats 4000000 in
set_option maxRecDepth 100000 in
/-- (Seen).Has. -/
theorem seenHas (w : World) (b : Int) (n : Nat) (v : Value) (l : List Int) (c : Int) (hown : w.ownsRow 0 32 1 v n (U l)) (hn : n < 1099511627776) (hs : l.Pairwise (· < ·)) :
    Calls Try.prog 36 #[.agg #[.int .u64 b, v], .int .u64 c] w fun e w' => e = .returned (.bool (hasB (b, l) c)) ∧ w.grownBy w' none := by
  obtain ⟨a, cap, rfl, _⟩ := row_form hown
  have H : Hid (w.ownsRow 0 32 1 (.slice a n cap) n (U l) ∧ l.Pairwise (· < ·)) := ⟨hown, hs⟩
  clear hown hs
  by_cases hle : c ≤ b
  · have HB : Hid (true = hasB (b, l) c) := by simp [Hid, hasB, hle]
    go_enter Try.func36, Try.ntmps36
    go_wp2_with fail
    go_ret
    exact ⟨ret_bool HB.out, World.grownBy_alloc _ _ _⟩
  · have HB : Hid (inB l c = hasB (b, l) c) := by simp [Hid, hasB, hle]
    go_enter Try.func36, Try.ntmps36
    go_wp2_with fail
    refine (search_any 0 n _ l c _ (by exact H.out.1.alloc _) (by omega) H.out.2).mono ?_
    rintro e w' ⟨rfl, rfl⟩
    go_wp2_with fail
    go_ret
    exact ⟨ret_bool HB.out, World.grownBy_alloc _ _ _⟩

variable {W : World} {O : Nat → Prop} {b N : Nat} {A : Clk} {D : DataW Value} {sv : Key → Value}

set_option maxHeartbeats 4000000 in
set_option maxRecDepth 100000 in
/-- (NodeClock).Has. -/
theorem clockHas (h : ClockOn W O b N A) (hN : N < 1000000000000) (s : ByteArray) (hs : s.size ≤ maxLen) (c : Int) :
    Calls Try.prog 29 #[.map (some b), .agg #[.string s, .int .u64 c]] W fun e w' => e = .returned (.bool (hasB (A s.data.toList) c)) ∧ W.grownBy w' none := by
  obtain ⟨D, sv, h⟩ := h
  have hlk := h.look_alloc s hs
  have hrow := h.row s.data.toList
  have hcan := h.canon s.data.toList
  have hcnt := h.cnt s.data.toList
  obtain ⟨a, cap, hv, _⟩ := row_form hrow
  rw [hv] at hlk hrow
  generalize A s.data.toList = S at *
  have hpos := hcan.pos
  have H : Hid (W.ownsRow 0 32 1 (.slice a S.2.length cap) S.2.length (U S.2) ∧ S.2.Pairwise (· < ·)) := ⟨hrow, hcan.srt⟩
  have hn : S.2.length < 1099511627776 := by omega
  clear h hv hrow hcan hcnt
  go_enter Try.func29, Try.ntmps29
  go_wp2_with fail
  refine (seenHas _ S.1 S.2.length _ S.2 c (by exact H.out.1.alloc _) hn H.out.2).mono ?_
  rintro e w' ⟨rfl, hg⟩
  go_wp2_with fail
  go_ret
  exact ⟨rfl, (World.grownBy_alloc _ _ _).trans hg⟩

/-- Two boxes of the call's own, whole, and nothing old turned. -/
structure Box2 (w : World) (o1 o2 : Obj) (W : World) : Prop where
  b1 : W.heap[w.heap.size]? = some o1
  b2 : W.heap[w.heap.size + 1]? = some o2
  gr : w.grownBy W none
theorem Box2.start (w : World) (o1 o2 : Obj) : Box2 w o1 o2 ((w.alloc o1).alloc o2) := by
  refine ⟨?_, ?_, grown_alloc2 _ _ _ _⟩
  · rw [heap_alloc_old _ _ (by simp)]; exact heap_alloc_new w o1
  · simpa using heap_alloc_new (w.alloc o1) o2
theorem Box2.more {w W W' : World} {o1 o2 : Obj} (h : Box2 w o1 o2 W) (hg : W.grownBy W' none) : Box2 w o1 o2 W' := by
  have h1 := (Array.getElem?_eq_some_iff.1 h.b1).1
  have h2 := (Array.getElem?_eq_some_iff.1 h.b2).1
  exact ⟨by rw [hg.block _ h1 (by simp)]; exact h.b1, by rw [hg.block _ h2 (by simp)]; exact h.b2, h.gr.trans hg⟩
theorem ClockOn.grown {W' : World} (h : ClockOn W O b N A) (hg : W.grownBy W' none) : ClockOn W' O b N A := by
  obtain ⟨D, sv, h⟩ := h
  exact ⟨D, sv, h.far fun g hO => hg.block g (h.lt g hO) (by simp)⟩

set_option maxHeartbeats 4000000 in
set_option maxRecDepth 100000 in
/-- (NodeClock).HasAll. -/
theorem hasAll (h : ClockOn W O b N A) (hN : N < 1000000000000) (s : ByteArray) (hs : s.size ≤ maxLen) (v : Value) (T : Sn) (hT : W.ownsRow 0 32 1 v T.2.length (U T.2)) (hT0 : 0 ≤ T.1) (hT1 : T.1 < 1000000000000) (hT2 : T.2.length < 1000000000000) :
    Calls Try.prog 14 #[.map (some b), .string s, .agg #[.int .u64 T.1, v]] W fun e w' => e = .returned (.bool (hasAllB (A s.data.toList) T)) ∧ W.grownBy w' none := by
  have hC := h
  obtain ⟨D, sv, h⟩ := h
  have hlk := h.look_alloc s hs
  have hrow := h.row s.data.toList
  have hcan := h.canon s.data.toList
  have hcnt := h.cnt s.data.toList
  obtain ⟨a, cap, hv, _⟩ := row_form hrow
  rw [hv] at hlk hrow
  obtain ⟨a', cap', rfl, hform⟩ := row_form hT
  obtain ⟨M, hM⟩ : ∃ M, M = A s.data.toList := ⟨_, rfl⟩
  rw [← hM] at hlk hrow hcan hcnt
  have hpos := hcan.pos
  have HC : Hid (ClockOn W O b N A ∧ M = A s.data.toList ∧ W.ownsRow 0 32 1 (.slice a' T.2.length cap') T.2.length (U T.2)) := ⟨hC, hM, hT⟩
  have hM1 : M.1 < 1000000000000 := by omega
  have hM2 : M.2.length < 1000000000000 := by omega
  rw [← hM]
  clear h hv hrow hcan hcnt hC hM hT
  by_cases hsk : M.1 < T.1 ∧ (M.2.length : Int) < T.1 - M.1
  · have HB : Hid (false = hasAllB M T) := by
      have : skipB M T = true := decide_eq_true hsk
      simp [Hid, hasAllB, this]
    obtain ⟨hs1, hs2⟩ := hsk
    go_enter Try.func14, Try.ntmps14
    go_wp2_with fail
    go_ret
    exact ⟨ret_bool HB.out, grown_alloc2 _ _ _ _⟩
  · have hnsk : skipB M T = false := decide_eq_false hsk
    have HK : Hid (hasAllB M T = (uptoB M (M.1 + 1) (T.1 - M.1).toNat && T.2.all (hasB M))) := by simp [Hid, hasAllB, hnsk]
    have HH : Hid (∀ wr, W.grownBy wr none → ∀ c, Calls Try.prog 29 #[.map (some b), .agg #[.string s, .int .u64 c]] wr fun e w' => e = .returned (.bool (hasB M c)) ∧ wr.grownBy w' none) := fun wr hg c => by
      rw [HC.out.2.1]; exact clockHas (HC.out.1.grown hg) hN s hs c
    have hsk' : T.1 ≤ M.1 ∨ (M.1 < T.1 ∧ T.1 - M.1 ≤ (M.2.length : Int)) := by omega
    clear hnsk hsk
    rcases hsk' with hle | ⟨hlt0, hle2⟩
    · go_enter Try.func14, Try.ntmps14
      go_wp2_with fail
      go_loopw [8] (fun s8 wr => ∃ j : Nat, s8 = .int .u64 (M.1 + 1 + j) ∧ j ≤ (T.1 - M.1).toNat ∧ uptoB M (M.1 + 1) j = true ∧ Box2 W (.cells #[.int .u64 T.1, .slice a' T.2.length cap'] 36) (.cells #[.int .u64 M.1, .slice a M.2.length cap] 36) wr) (fun s8 _ => (T.1 + 1 - intOf s8).toNat)
      case atStart => exact ⟨0, by go_num, Nat.zero_le _, rfl, Box2.start _ _ _⟩
      case round =>
        obtain ⟨j, rfl, hj, hup, hbx⟩ := hrel
        have k0 : wr.cell? ⟨W.heap.size, 0, none⟩ = some (.int .u64 T.1) := by rw [cell_of_row _ _ _ _ _ _ hbx.b1]; rfl
        have k1 : wr.cell? ⟨W.heap.size, 1, none⟩ = some (.slice a' T.2.length cap') := by rw [cell_of_row _ _ _ _ _ _ hbx.b1]; rfl
        have HX : Hid (uptoB M (M.1 + 1) j = true ∧ Box2 W (.cells #[.int .u64 T.1, .slice a' T.2.length cap'] 36) (.cells #[.int .u64 M.1, .slice a M.2.length cap] 36) wr) := ⟨hup, hbx⟩
        clear hup hbx
        by_cases hlt : M.1 + 1 + j ≤ T.1
        · omega
        · have HJ : Hid (hasAllB M T = T.2.all (hasB M)) := by
            show hasAllB M T = T.2.all (hasB M)
            rw [HK.out, show (T.1 - M.1).toNat = j by omega, HX.out.1]; rfl
          have HX2 : Hid (Box2 W (.cells #[.int .u64 T.1, .slice a' T.2.length cap'] 36) (.cells #[.int .u64 M.1, .slice a M.2.length cap] 36) wr) := HX.out.2
          clear HX HK
          go_wp2_with fail
          go_loopw [49] (fun s49 wr => ∃ i : Nat, s49 = .int .i64 i ∧ i ≤ T.2.length ∧ (T.2.take i).all (hasB M) = true ∧ W.grownBy wr none) (fun s49 _ => T.2.length - (intOf s49).toNat)
          case atStart => exact ⟨0, by go_num, Nat.zero_le _, by simp, HX2.out.gr⟩
          case round =>
            obtain ⟨i, rfl, hi, hal, hgr⟩ := hrel
            have HL : Hid ((T.2.take i).all (hasB M) = true ∧ W.grownBy wr none) := ⟨hal, hgr⟩
            clear hal hgr
            by_cases hil : i < T.2.length
            · obtain ⟨g', rfl⟩ : ∃ g', a' = some ⟨g', 0, none⟩ := by
                rcases hform with rfl | h
                · rcases HC.out.2.2.2 with ⟨_, h0⟩ | ⟨g, cp, cur, hh, _⟩
                  · omega
                  · simp at hh
                · exact h
              have hil' : (i : Int) < (T.2.length : Int) := by omega
              have hcl : wr.cell? ⟨g', i, none⟩ = some (.int .u64 (T.2.getD i 0)) := by
                rw [HL.out.2.cell_far ⟨g', i, none⟩ (HC.out.2.2.lt g' rfl).2 (by simp)]; exact own_cell HC.out.2.2 rfl i hil
              have HG : Hid ((T.2.take (i + 1)).all (hasB M) = ((T.2.take i).all (hasB M) && hasB M (T.2.getD i 0))) := by
                show _ = _
                rw [List.take_succ_eq_append_getElem hil, List.all_append, List.getD_eq_getElem?_getD, List.getElem?_eq_getElem hil]; simp
              have HM : Hid (T.2.getD i 0 ∈ T.2) := by
                show _ ∈ _
                rw [List.getD_eq_getElem?_getD, List.getElem?_eq_getElem hil]; simp
              generalize T.2.getD i 0 = y at hcl HG HM
              cases hh : hasB M y
              · have HF : Hid (false = hasAllB M T) := by
                  show false = hasAllB M T
                  rw [HJ.out]
                  symm
                  rw [← Bool.not_eq_true, List.all_eq_true]
                  intro hc
                  have := hc y HM.out
                  rw [hh] at this; exact absurd this (by simp)
                go_wp2_with fail
                refine (HH.out _ (by exact HL.out.2) _).mono ?_
                rintro e w' ⟨rfl, hg⟩
                go_wp2_with fail
                go_ret
                exact ⟨ret_bool HF.out, HL.out.2.trans hg⟩
              · go_wp2_with fail
                refine (HH.out _ (by exact HL.out.2) _).mono ?_
                rintro e w' ⟨rfl, hg⟩
                go_wp2_with fail
                refine ⟨⟨i + 1, by go_num, by omega, ?_, HL.out.2.trans hg⟩, by simp [intOf]; omega⟩
                first | (rw [HG.out, HL.out.1, hh]; rfl) | (rw [← List.all_eq_true, HG.out, HL.out.1, hh]; rfl)
            · have HF : Hid (true = hasAllB M T) := by
                show true = hasAllB M T
                have := HL.out.1
                rw [List.take_of_length_le (by omega)] at this
                rw [HJ.out, this]
              go_wp2_with fail
              go_ret
              exact ⟨ret_bool HF.out, HL.out.2⟩
    · go_enter Try.func14, Try.ntmps14
      go_wp2_with fail
      go_loopw [8] (fun s8 wr => ∃ j : Nat, s8 = .int .u64 (M.1 + 1 + j) ∧ j ≤ (T.1 - M.1).toNat ∧ uptoB M (M.1 + 1) j = true ∧ Box2 W (.cells #[.int .u64 T.1, .slice a' T.2.length cap'] 36) (.cells #[.int .u64 M.1, .slice a M.2.length cap] 36) wr) (fun s8 _ => (T.1 + 1 - intOf s8).toNat)
      case atStart => exact ⟨0, by go_num, Nat.zero_le _, rfl, Box2.start _ _ _⟩
      case round =>
        obtain ⟨j, rfl, hj, hup, hbx⟩ := hrel
        have k0 : wr.cell? ⟨W.heap.size, 0, none⟩ = some (.int .u64 T.1) := by rw [cell_of_row _ _ _ _ _ _ hbx.b1]; rfl
        have k1 : wr.cell? ⟨W.heap.size, 1, none⟩ = some (.slice a' T.2.length cap') := by rw [cell_of_row _ _ _ _ _ _ hbx.b1]; rfl
        have HX : Hid (uptoB M (M.1 + 1) j = true ∧ Box2 W (.cells #[.int .u64 T.1, .slice a' T.2.length cap'] 36) (.cells #[.int .u64 M.1, .slice a M.2.length cap] 36) wr) := ⟨hup, hbx⟩
        clear hup hbx
        by_cases hlt : M.1 + 1 + j ≤ T.1
        · cases hh : hasB M (M.1 + 1 + j)
          · have HF : Hid (false = hasAllB M T) := by
              have : uptoB M (M.1 + 1) (T.1 - M.1).toNat = false := by
                rw [← Bool.not_eq_true, uptoB_iff]
                intro hc
                have := hc j (by omega)
                rw [hh] at this; exact absurd this (by simp)
              show false = hasAllB M T
              rw [HK.out, this]; rfl
            go_wp2_with fail
            refine (HH.out _ (by exact HX.out.2.gr) _).mono ?_
            rintro e w' ⟨rfl, hg⟩
            go_wp2_with fail
            go_ret
            exact ⟨ret_bool HF.out, HX.out.2.gr.trans hg⟩
          · go_wp2_with fail
            refine (HH.out _ (by exact HX.out.2.gr) _).mono ?_
            rintro e w' ⟨rfl, hg⟩
            go_wp2_with fail
            refine ⟨⟨j + 1, by go_num, by omega, ?_, HX.out.2.more hg⟩, by simp [intOf]; omega⟩
            show (uptoB M (M.1 + 1) j && hasB M (M.1 + 1 + j)) = true
            rw [HX.out.1, hh]; rfl
        · have HJ : Hid (hasAllB M T = T.2.all (hasB M)) := by
            show hasAllB M T = T.2.all (hasB M)
            rw [HK.out, show (T.1 - M.1).toNat = j by omega, HX.out.1]; rfl
          have HX2 : Hid (Box2 W (.cells #[.int .u64 T.1, .slice a' T.2.length cap'] 36) (.cells #[.int .u64 M.1, .slice a M.2.length cap] 36) wr) := HX.out.2
          clear HX HK
          go_wp2_with fail
          go_loopw [49] (fun s49 wr => ∃ i : Nat, s49 = .int .i64 i ∧ i ≤ T.2.length ∧ (T.2.take i).all (hasB M) = true ∧ W.grownBy wr none) (fun s49 _ => T.2.length - (intOf s49).toNat)
          case atStart => exact ⟨0, by go_num, Nat.zero_le _, by simp, HX2.out.gr⟩
          case round =>
            obtain ⟨i, rfl, hi, hal, hgr⟩ := hrel
            have HL : Hid ((T.2.take i).all (hasB M) = true ∧ W.grownBy wr none) := ⟨hal, hgr⟩
            clear hal hgr
            by_cases hil : i < T.2.length
            · obtain ⟨g', rfl⟩ : ∃ g', a' = some ⟨g', 0, none⟩ := by
                rcases hform with rfl | h
                · rcases HC.out.2.2.2 with ⟨_, h0⟩ | ⟨g, cp, cur, hh, _⟩
                  · omega
                  · simp at hh
                · exact h
              have hil' : (i : Int) < (T.2.length : Int) := by omega
              have hcl : wr.cell? ⟨g', i, none⟩ = some (.int .u64 (T.2.getD i 0)) := by
                rw [HL.out.2.cell_far ⟨g', i, none⟩ (HC.out.2.2.lt g' rfl).2 (by simp)]; exact own_cell HC.out.2.2 rfl i hil
              have HG : Hid ((T.2.take (i + 1)).all (hasB M) = ((T.2.take i).all (hasB M) && hasB M (T.2.getD i 0))) := by
                show _ = _
                rw [List.take_succ_eq_append_getElem hil, List.all_append, List.getD_eq_getElem?_getD, List.getElem?_eq_getElem hil]; simp
              have HM : Hid (T.2.getD i 0 ∈ T.2) := by
                show _ ∈ _
                rw [List.getD_eq_getElem?_getD, List.getElem?_eq_getElem hil]; simp
              generalize T.2.getD i 0 = y at hcl HG HM
              cases hh : hasB M y
              · have HF : Hid (false = hasAllB M T) := by
                  show false = hasAllB M T
                  rw [HJ.out]
                  symm
                  rw [← Bool.not_eq_true, List.all_eq_true]
                  intro hc
                  have := hc y HM.out
                  rw [hh] at this; exact absurd this (by simp)
                go_wp2_with fail
                refine (HH.out _ (by exact HL.out.2) _).mono ?_
                rintro e w' ⟨rfl, hg⟩
                go_wp2_with fail
                go_ret
                exact ⟨ret_bool HF.out, HL.out.2.trans hg⟩
              · go_wp2_with fail
                refine (HH.out _ (by exact HL.out.2) _).mono ?_
                rintro e w' ⟨rfl, hg⟩
                go_wp2_with fail
                refine ⟨⟨i + 1, by go_num, by omega, ?_, HL.out.2.trans hg⟩, by simp [intOf]; omega⟩
                first | (rw [HG.out, HL.out.1, hh]; rfl) | (rw [← List.all_eq_true, HG.out, HL.out.1, hh]; rfl)
            · have HF : Hid (true = hasAllB M T) := by
                show true = hasAllB M T
                have := HL.out.1
                rw [List.take_of_length_le (by omega)] at this
                rw [HJ.out, this]
              go_wp2_with fail
              go_ret
              exact ⟨ret_bool HF.out, HL.out.2⟩
end Go.Proofs.Qxb6000536a.ck
