import Derived.Test.Qxb6000536aClock
import Derived.Deep.RegionWith
import Derived.Deep.RegionHeld3
namespace Go.Proofs.Qxb6000536a.ck
open Go.RowKit Go.Lib Go.Maps
set_option linter.unusedVariables false

/-- W is w but for the blocks of O, and new ones. -/
structure Kept (O : Nat → Prop) (w W : World) : Prop where
  os : W.os = w.os
  tape : W.tape = w.tape
  output : W.output = w.output
  size : w.heap.size ≤ W.heap.size
  block : ∀ k, k < w.heap.size → ¬ O k → W.heap[k]? = w.heap[k]?
theorem Kept.refl (O : Nat → Prop) (w : World) : Kept O w w := ⟨rfl, rfl, rfl, Nat.le_refl _, fun _ _ _ => rfl⟩
theorem Kept.trans {O O' : Nat → Prop} {a b c : World} (h : Kept O a b) (h' : Kept O' b c) (ho : ∀ k, k < a.heap.size → O' k → O k) : Kept O a c :=
  ⟨h'.os.trans h.os, h'.tape.trans h.tape, h'.output.trans h.output, Nat.le_trans h.size h'.size, fun k hk hn => (h'.block k (by have := h.size; omega) (fun c => hn (ho k hk c))).trans (h.block k hk hn)⟩
theorem Kept.grown {O : Nat → Prop} {w W : World} {row : Option Nat} (h : w.grownBy W row) (ho : ∀ k, row = some k → O k) : Kept O w W :=
  ⟨h.os, h.tape, h.output, h.size, fun k hk hn => h.block k hk (fun e => hn (ho k e.symm))⟩
theorem grown_alloc2 (w : World) (o o' : Obj) (row : Option Nat) : w.grownBy ((w.alloc o).alloc o') row := (World.grownBy_alloc w o row).trans (World.grownBy_alloc _ o' row)

variable {W : World} {O : Nat → Prop} {b N : Nat} {A : Clk} {D : DataW Value} {sv : Key → Value}

theorem le_of_srt : ∀ l : List Int, l.Pairwise (· < ·) → l.Pairwise (· ≤ ·)
  | [], _ => List.Pairwise.nil
  | x :: r, h => by
    rw [List.pairwise_cons] at h ⊢
    exact ⟨fun y hy => Int.le_of_lt (h.1 y hy), le_of_srt r h.2⟩

/-- What holds at W of the map holds behind new blocks. -/
theorem ClockIs.look_alloc (h : ClockIs W O b N A D sv) (s : ByteArray) (hs : s.size ≤ maxLen) (o : Obj) :
    (Instr.lookup 29 (.map (some b)) (.string s) false).run Try.prog (W.alloc o) = .ok (.agg #[.int .u64 (A s.data.toList).1, sv s.data.toList]) (W.alloc o) :=
  (⟨h.own.alloc o, h.inb, fun g hg => by have := h.lt g hg; simp; omega, h.at_, fun k => (h.row k).alloc o, h.blk, h.apart, h.has, h.canon, h.cnt⟩ : ClockIs (W.alloc o) O b N A D sv).look s hs

/-- What a row's value looks like. -/
theorem row_form {w : World} {base n : Nat} {v : Value} {xs : List Value} (h : w.ownsRow base 32 1 v n xs) : ∃ a cap, v = .slice a n cap ∧ (a = none ∨ ∃ g, a = some ⟨g, 0, none⟩) := by
  rcases h.2 with ⟨rfl, rfl⟩ | ⟨g, cap, cur, rfl, _⟩
  · exact ⟨none, 0, rfl, .inl rfl⟩
  · exact ⟨_, cap, rfl, .inr ⟨g, rfl⟩⟩

set_option maxHeartbeats 4000000 in
set_option maxRecDepth 100000 in
/-- Add of a write up to the base: nothing turns. -/
theorem add_le (h : ClockIs W O b N A D sv) (s : ByteArray) (hs : s.size ≤ maxLen) (c : Int) (hle : c ≤ (A s.data.toList).1) :
    Calls Try.prog 13 #[.map (some b), .agg #[.string s, .int .u64 c]] W fun e w' => e = .returned (.tuple #[]) ∧ W.grownBy w' none := by
  have hlk := h.look_alloc s hs
  obtain ⟨a, cap, hv, _⟩ := row_form (h.row s.data.toList)
  rw [hv] at hlk
  generalize A s.data.toList = S at *
  clear h hv
  go_enter Try.func13, Try.ntmps13
  go_wp2_with fail
  exact bodyPost_ret (v := .tuple #[]) (by simp [results, Try.results13, go_sem]) rfl ⟨rfl, grown_alloc2 _ _ _ _⟩

set_option maxHeartbeats 4000000 in
set_option maxRecDepth 100000 in
/-- Add of a write that is held above the base: nothing turns. -/
theorem add_in (h : ClockIs W O b N A D sv) (hN : N < 1000000000000) (s : ByteArray) (hs : s.size ≤ maxLen) (c : Int) (hgt : ¬ c ≤ (A s.data.toList).1) (hin : inB (A s.data.toList).2 c = true) :
    Calls Try.prog 13 #[.map (some b), .agg #[.string s, .int .u64 c]] W fun e w' => e = .returned (.tuple #[]) ∧ W.grownBy w' none := by
  have hlk := h.look_alloc s hs
  have hrow := h.row s.data.toList
  have hcan := h.canon s.data.toList
  have hcnt := h.cnt s.data.toList
  obtain ⟨a, cap, hv, hform⟩ := row_form hrow
  rw [hv] at hlk hrow
  generalize A s.data.toList = S at *
  have hlen : 0 < S.2.length := by
    rcases hl : S.2 with _ | ⟨x, r⟩
    · rw [hl] at hin; simp [inB] at hin
    · simp
  rcases hform with rfl | ⟨g, rfl⟩
  · exact absurd hlen (by rcases hrow.2 with ⟨_, h0⟩ | ⟨g, cp, cur, hh, _⟩; (· omega); (· simp at hh))
  have hglt := (hrow.lt g rfl).2
  have hcell : ∀ j, j < S.2.length → W.cell? ⟨g, j, none⟩ = some (.int .u64 (S.2.getD j 0)) := fun j hj => own_cell hrow rfl j hj
  have hpos := hcan.pos
  have hsrt : S.2.Pairwise (· ≤ ·) := le_of_srt S.2 hcan.srt
  have hn : S.2.length < 4611686018427387904 := by omega
  clear h hv hrow hcan hcnt
  go_enter Try.func13, Try.ntmps13
  go_wp2_with fail
  refine (search_some g S.2.length cap S.2 c _ rfl hn (fun j hj => by rw [World.cell?_alloc_lt _ _ _ (by simp; omega), World.cell?_alloc_lt _ _ _ hglt]; exact hcell j hj) hsrt).mono ?_
  rintro e w' ⟨rfl, rfl⟩
  go_wp2_with fail
  exact bodyPost_ret (v := .tuple #[]) (by simp [results, Try.results13, go_sem]) rfl ⟨rfl, grown_alloc2 _ _ _ _⟩

/-- BinarySearch, in a row of the call's own, or nil. -/
theorem search_any (base n : Nat) (v : Value) (l : List Int) (x : Int) (w : World) (hown : w.ownsRow base 32 1 v n (U l)) (hn : n < 4611686018427387904) (hs : l.Pairwise (· < ·)) :
    Calls Try.prog 26 #[v, .int .u64 x] w fun e w' => e = .returned (.tuple #[.int .i64 (posOf l x : Nat), .bool (inB l x)]) ∧ w' = w := by
  have hl : l.length = n := by have := hown.1; rw [U_length] at this; omega
  obtain ⟨a, cap, rfl, hform⟩ := row_form hown
  rcases hform with rfl | ⟨g, rfl⟩
  · have h0 : n = 0 := by rcases hown.2 with ⟨_, h0⟩ | ⟨g, cp, cur, hh, _⟩; (· exact h0); (· simp at hh)
    subst h0
    rw [List.length_eq_zero_iff.1 hl]
    exact search_none none cap x w
  · exact search_some g n cap l x w hl.symm hn (fun j hj => own_cell hown rfl j hj) (le_of_srt l hs)

theorem boxes {w w' : World} {o1 o2 o3 : Obj} {row : Option Nat} (h : (((w.alloc o1).alloc o2).alloc o3).grownBy w' row) (hr : ∀ k, row = some k → k < w.heap.size) :
    w'.heap[w.heap.size]? = some o1 ∧ w'.heap[w.heap.size + 1]? = some o2 ∧ w.grownBy w' row := by
  have hsz : (((w.alloc o1).alloc o2).alloc o3).heap.size = w.heap.size + 3 := by simp
  refine ⟨?_, ?_, ?_⟩
  · rw [h.block _ (by omega) (fun e => by have := hr _ e.symm; omega), heap_alloc_old _ _ (by simp; omega), heap_alloc_old _ _ (by simp)]
    exact heap_alloc_new w o1
  · rw [h.block _ (by omega) (fun e => by have := hr _ e.symm; omega), heap_alloc_old _ _ (by simp)]
    have := heap_alloc_new (w.alloc o1) o2
    simpa using this
  · exact ((World.grownBy_alloc w o1 row).trans ((World.grownBy_alloc _ o2 row).trans (World.grownBy_alloc _ o3 row))).trans h

/-- The last store of Add, and what has come of the clock. -/
theorem add_put (h : ClockIs W O b N A D sv) (hN : N < 1000000000000) (s : ByteArray) (hs : s.size ≤ maxLen) (c : Int) (hc : c < 18446744073709551616) (S : Sn) (hS : S = A s.data.toList) (hgt : S.1 < c) (hin : inB S.2 c = false)
    {W5 W6 : World} {v v6 : Value} {g4 : Nat} (hv : sv s.data.toList = v) (hgr5 : W.grownBy W5 v.ownBlock) (hl4 : v.ownBlock = some g4 ∨ g4 = W.heap.size + 3) (hgr6 : W5.drew.grownBy W6 (some g4))
    (hown6 : W6.ownsRow 0 32 1 v6 (foldS S.1 (insS S.2 c)).2.length (U (foldS S.1 (insS S.2 c)).2)) (hl6 : v6.ownBlock = none ∨ v6.ownBlock = some g4) :
    ∃ W7, (Instr.mapUpdate 29 (.map (some b)) (.string s) (.agg #[.int .u64 (foldS S.1 (insS S.2 c)).1, v6])).run Try.prog W6 = .ok () W7 ∧ W6.grownBy W7 (some b) ∧
      ∃ O', (∀ g, O' g → O g ∨ W.heap.size ≤ g ∧ g < W7.heap.size) ∧ Kept O W W7 ∧ ClockOn W7 O' b (N + 1) (addC A s.data.toList c) := by
  have hb : b < W.heap.size := h.own.lt
  have hvlt : ∀ k g, (sv k).ownBlock = some g → g < W.heap.size := fun k g hg => ((h.row k).lt g hg).2
  have hnb : ¬ hasB S c = true := by simp [hasB, hin]; omega
  have hadd : addS S c = foldS S.1 (insS S.2 c) := by simp [addS, hnb]
  obtain ⟨hcan, hhas, hle, hcnt⟩ := addS_spec S c (by rw [hS]; exact h.canon _) hc
  rw [hadd] at hcan hhas hle hcnt
  have hcn := h.cnt s.data.toList
  rw [← hS] at hcn
  have hpos : 0 ≤ S.1 := by rw [hS]; exact (h.canon _).pos
  have hne : foldS S.1 (insS S.2 c) ≠ (0, []) := fun e => by
    have := (hhas c).2 (.inr (.inl rfl))
    rw [e] at this
    simp [Has] at this; omega
  have hsz : W.heap.size ≤ W5.heap.size := hgr5.size
  have hfar : ∀ g, g < W.heap.size → v.ownBlock ≠ some g → W6.heap[g]? = W.heap[g]? := fun g hg hne' => by
    have h1 := hgr6.block g (by show g < W5.heap.size; omega) (fun e => by
      simp only [Option.some.injEq] at e
      rcases hl4 with h' | h'
      · exact hne' (by rw [h', e])
      · omega)
    rw [h1]
    exact hgr5.block g hg (fun e => hne' e.symm)
  have hg4b : g4 ≠ b := fun e => by
    rcases hl4 with h' | h'
    · rw [← hv] at h'; exact (h.blk _ _ h').2 e
    · omega
  have hg4lt : g4 < W6.heap.size ∨ v6.ownBlock = none := by
    rcases hl6 with h' | h'
    · exact .inr h'
    · exact .inl (hown6.lt g4 h').2
  have hvg : ∀ g, v6.ownBlock = some g → g = g4 := fun g hg => by
    rcases hl6 with h' | h'
    · rw [h'] at hg; simp at hg
    · rw [h'] at hg; simp at hg; exact hg.symm
  obtain ⟨W7, hrun, hgr7, hclk⟩ := h.put (W6 := W6) (O' := fun g => O g ∨ v6.ownBlock = some g) s hs (by unfold maxLen; omega) (fun g hg hne' => hfar g (h.lt g hg) (by rw [← hv]; exact hne'))
    (foldS S.1 (insS S.2 c)) v6 hown6 hcan hne (by omega)
    (fun g hg => ⟨.inr hg, by rw [hvg g hg]; exact hg4b⟩) (fun g hg => .inl hg)
    (fun g hg => by
      have h6 := hgr6.size
      have h6' : W5.heap.size ≤ W6.heap.size := h6
      rcases hg with hg | hg
      · have := h.lt g hg; omega
      · exact (hown6.lt g hg).2)
    (fun k g hg hk => by
      have e := hvg g hg
      have hlt := hvlt k g hk
      rcases hl4 with h' | h'
      · exact h.apart k _ g hk (by rw [hv, h', e])
      · omega)
  refine ⟨W7, hrun, hgr7, fun g => O g ∨ v6.ownBlock = some g, fun g hg => ?_, ?_, ?_⟩
  · rcases hg with hg | hg
    · exact .inl hg
    · have e := hvg g hg
      have h7 := hgr7.size
      have h6 := (hown6.lt g hg).2
      rcases hl4 with h' | h'
      · rw [← hv] at h'
        exact .inl (by rw [e]; exact (h.blk _ _ h').1)
      · exact .inr ⟨by omega, by omega⟩
  · have h6' : W5.heap.size ≤ W6.heap.size := hgr6.size
    refine ⟨hgr7.os.trans (hgr6.os.trans hgr5.os), hgr7.tape.trans (hgr6.tape.trans hgr5.tape), hgr7.output.trans (hgr6.output.trans hgr5.output), by have := hgr7.size; omega, fun k hk hn => ?_⟩
    rw [hgr7.block k (by omega) (fun e => hn (by simp only [Option.some.injEq] at e; rw [e]; exact h.inb))]
    exact hfar k hk (fun e => hn (by rw [← hv] at e; exact (h.blk _ _ e).1))
  · have ec : addC A s.data.toList c = fun k' => if k' = s.data.toList then foldS S.1 (insS S.2 c) else A k' := by
      funext k'
      unfold addC
      rw [← hS, hadd]
    rw [ec]; exact hclk

set_option maxHeartbeats 4000000 in
set_option maxRecDepth 100000 in
/-- Add of a write that is not held. -/
theorem add_new (h : ClockIs W O b N A D sv) (hN : N < 1000000000000) (s : ByteArray) (hs : s.size ≤ maxLen) (c : Int) (hc : c < 18446744073709551616) (hgt : ¬ c ≤ (A s.data.toList).1) (hin : inB (A s.data.toList).2 c = false) :
    Calls Try.prog 13 #[.map (some b), .agg #[.string s, .int .u64 c]] W fun e w' => e = .returned (.tuple #[]) ∧ ∃ O', (∀ g, O' g → O g ∨ W.heap.size ≤ g ∧ g < w'.heap.size) ∧ Kept O W w' ∧ ClockOn w' O' b (N + 1) (addC A s.data.toList c) := by
  have hlk := h.look_alloc s hs
  have hrow := h.row s.data.toList
  have hcan := h.canon s.data.toList
  have hcnt := h.cnt s.data.toList
  have hblt : b < W.heap.size := h.own.lt
  obtain ⟨a, cap, hv, hform⟩ := row_form hrow
  rw [hv] at hlk
  have HH : Hid (ClockIs W O b N A D sv ∧ sv s.data.toList = .slice a (A s.data.toList).2.length cap) := ⟨h, hv⟩
  rw [hv] at hrow
  obtain ⟨S, hS⟩ : ∃ S, S = A s.data.toList := ⟨_, rfl⟩
  rw [← hS] at hrow hcan hcnt hlk hgt hin
  have HS : Hid (S = A s.data.toList) := hS
  clear h hv hform hS
  have hpos := hcan.pos
  have hn : S.2.length < 1099511627776 := by omega
  have HR : Hid (W.ownsRow 0 32 1 (.slice a S.2.length cap) S.2.length (U S.2) ∧ Canon S ∧ S.1 + S.2.length ≤ N) := ⟨hrow, hcan, hcnt⟩
  clear hrow hcan hcnt
  go_enter Try.func13, Try.ntmps13
  go_wp2_with fail
  refine (search_any 0 S.2.length _ S.2 c _ ((HR.out.1.alloc _).alloc _) (by omega) HR.out.2.1.srt).mono ?_
  rintro e w' ⟨rfl, rfl⟩
  go_wp2_with fail
  have hrl : ∀ k, (Value.slice a S.2.length cap).ownBlock = some k → k < W.heap.size := fun k hk => (HR.out.1.lt k hk).2
  refine (insert_any 0 S.2.length (posOf S.2 c) (W.heap.size + 1 + 1) (.slice a S.2.length cap) S.2 c _ (((HR.out.1.alloc _).alloc _).alloc _) (posOf_le S.2 c) hn ?hvb ?hne (Nat.zero_le _)).mono ?_
  case hvb => exact (by simpa using heap_alloc_new ((W.alloc (.cells #[.string s, .int .u64 c] 34)).alloc (.cells #[.int .u64 S.1, .slice a S.2.length cap] 36)) (.cells #[.int .u64 c] 32))
  case hne => exact fun e => by have := hrl _ e; omega
  rintro e W4 ⟨g4, cap4, rfl, hown4, hgr4, hat4⟩
  obtain ⟨hb1, hb2, hgr⟩ := boxes hgr4 hrl
  have hsz3 : (((W.alloc (.cells #[.string s, .int .u64 c] 34)).alloc (.cells #[.int .u64 S.1, .slice a S.2.length cap] 36)).alloc (.cells #[.int .u64 c] 32)).heap.size = W.heap.size + 3 := by simp
  have hg4 : g4 ≠ W.heap.size ∧ g4 ≠ W.heap.size + 1 := by
    rcases hat4 with h | h
    · have := hrl _ h; omega
    · rw [hsz3] at h; omega
  have k0 : W4.cell? ⟨W.heap.size, 0, none⟩ = some (.string s) := by rw [cell_of_row _ _ _ _ _ _ hb1]; rfl
  have k1 : W4.cell? ⟨W.heap.size + 1, 0, none⟩ = some (.int .u64 S.1) := by rw [cell_of_row _ _ _ _ _ _ hb2]; rfl
  have k2 : W4.cell? ⟨W.heap.size + 1, 1, none⟩ = some (.slice a S.2.length cap) := by rw [cell_of_row _ _ _ _ _ _ hb2]; rfl
  have k3 : W4.frozen? ⟨W.heap.size + 1, 1, none⟩ = false := frozen_row hb2 1
  have HB : Hid (W4.ownsRow 0 32 1 (.slice (some ⟨g4, 0, none⟩) (S.2.length + 1) cap4) (S.2.length + 1) (U (insS S.2 c)) ∧ W.grownBy W4 (Value.slice a S.2.length cap).ownBlock ∧ W4.heap[W.heap.size]? = some (.cells #[.string s, .int .u64 c] 34) ∧ W4.heap[W.heap.size + 1]? = some (.cells #[.int .u64 S.1, .slice a S.2.length cap] 36) ∧
      ((Value.slice a S.2.length cap).ownBlock = some g4 ∨ g4 = W.heap.size + 3)) := ⟨hown4, hgr, hb1, hb2, by rw [← hsz3]; exact hat4⟩
  clear hown4 hgr4 hat4 hb1 hb2 hgr hsz3 hlk
  go_wp2_with fail
  -- the world ahead of the last statement, behind a name
  obtain ⟨W5, hW5⟩ : ∃ W5, W5 = W4.setCell ⟨W.heap.size + 1, 1, none⟩ (.slice (some ⟨g4, 0, none⟩) (S.2.length + 1) cap4) := ⟨_, rfl⟩
  have m0 : W5.cell? ⟨W.heap.size, 0, none⟩ = some (.string s) := by rw [hW5, World.cell?_setCell_other _ _ _ _ (by simp)]; exact k0
  have m1 : W5.cell? ⟨W.heap.size + 1, 0, none⟩ = some (.int .u64 S.1) := by rw [hW5, World.cell?_setCell_other _ _ _ _ (by simp)]; exact k1
  have m2 : W5.cell? ⟨W.heap.size + 1, 1, none⟩ = some (.slice (some ⟨g4, 0, none⟩) (S.2.length + 1) cap4) := by rw [hW5]; exact World.cell?_setCell_same _ _ _ k2
  have H5 : Hid (W5.ownsRow 0 32 1 (.slice (some ⟨g4, 0, none⟩) (S.2.length + 1) cap4) (S.2.length + 1) (U (insS S.2 c)) ∧ W.grownBy W5 (Value.slice a S.2.length cap).ownBlock ∧
      W.heap.size + 2 ≤ W5.heap.size ∧ ((Value.slice a S.2.length cap).ownBlock = some g4 ∨ g4 = W.heap.size + 3)) := by
    have hB := HB.out
    refine ⟨own_far hB.1 fun g hg => ?_, by rw [hW5]; exact grown_setCell hB.2.1 (Nat.le_succ _) _, ?_, hB.2.2.2.2⟩
    · simp only [Value.ownBlock, Option.some.injEq] at hg
      subst hg
      rw [hW5, Below.heap_setCell _ _ _ _ (by show g4 ≠ W.heap.size + 1; omega)]
    · have : W.heap.size + 1 < W4.heap.size := (Array.getElem?_eq_some_iff.1 hB.2.2.2.1).1
      rw [hW5]; simp [World.setCell]; omega
  rw [← hW5]
  clear k0 k1 k2 k3 HB hW5
  have hS1 : S.1 < 1152921504606846976 := by have := HR.out.2.2; omega
  have hz1 : W.heap.size < W5.drew.heap.size := by show W.heap.size < W5.heap.size; have := H5.out.2.2.1; omega
  have hz2 : W.heap.size + 1 < W5.drew.heap.size := by show W.heap.size + 1 < W5.heap.size; have := H5.out.2.2.1; omega
  have hz3 : some W.heap.size ≠ some g4 := by simp; omega
  have hz5 : some W.heap.size ≠ some b := by simp; omega
  have hz6 : some (W.heap.size + 1) ≠ some b := by simp; omega
  have hz4 : some (W.heap.size + 1) ≠ some g4 := by simp; omega
  have hn1 : S.2.length + 1 < 1099511627776 := by have := HR.out.2.2; omega
  go_region_held3 (fun w' => w'.cell? ⟨W.heap.size, 0, none⟩ = some (.string s) ∧ w'.cell? ⟨W.heap.size + 1, 0, none⟩ = some (.int .u64 S.1) ∧ w'.cell? ⟨W.heap.size + 1, 1, none⟩ = some (.slice (some ⟨g4, 0, none⟩) (S.2.length + 1) cap4)) (first | go_keep | exact ⟨(hgr7.cell_far ⟨W.heap.size, 0, none⟩ (Nat.lt_of_lt_of_le hz1 hgr6.size) hz5).trans ((hgr6.cell_far ⟨W.heap.size, 0, none⟩ hz1 hz3).trans m0), (hgr7.cell_far ⟨W.heap.size + 1, 0, none⟩ (Nat.lt_of_lt_of_le hz2 hgr6.size) hz6).trans ((hgr6.cell_far ⟨W.heap.size + 1, 0, none⟩ hz2 hz4).trans m1), (hgr7.cell_far ⟨W.heap.size + 1, 1, none⟩ (Nat.lt_of_lt_of_le hz2 hgr6.size) hz6).trans ((hgr6.cell_far ⟨W.heap.size + 1, 1, none⟩ hz2 hz4).trans m2)⟩ | exact ⟨(hgr6.cell_far ⟨W.heap.size, 0, none⟩ hz1 hz3).trans m0, (hgr6.cell_far ⟨W.heap.size + 1, 0, none⟩ hz2 hz4).trans m1, (hgr6.cell_far ⟨W.heap.size + 1, 1, none⟩ hz2 hz4).trans m2⟩)
    ((go_at_call 28; refine (folded_any _ 0 (S.2.length + 1) g4 cap4 S.1 (insS S.2 c) (by exact H5.out.1) hpos hS1 hn1).mono ?_; rintro e W6 ⟨v6, rfl, hown6, hgr6, hloc6⟩; obtain ⟨W7, hrun, hgr7, hfin⟩ := add_put HH.out.1 hN s hs c hc S HS.out hgt hin (by rw [HS.out]; exact HH.out.2) H5.out.2.1 H5.out.2.2.2 hgr6 hown6 hloc6))
  go_end0
  exact ⟨rfl, hfin⟩

/-- (NodeClock).Add. -/
theorem add_any (h : ClockOn W O b N A) (hN : N < 1000000000000) (s : ByteArray) (hs : s.size ≤ maxLen) (c : Int) (hc : c < 18446744073709551616) :
    Calls Try.prog 13 #[.map (some b), .agg #[.string s, .int .u64 c]] W fun e w' => e = .returned (.tuple #[]) ∧ ∃ O', (∀ g, O' g → O g ∨ W.heap.size ≤ g ∧ g < w'.heap.size) ∧ Kept O W w' ∧ ClockOn w' O' b (N + 1) (addC A s.data.toList c) := by
  obtain ⟨D, sv, h⟩ := h
  have same : ∀ w', W.grownBy w' none → hasB (A s.data.toList) c = true → ∃ O', (∀ g, O' g → O g ∨ W.heap.size ≤ g ∧ g < w'.heap.size) ∧ Kept O W w' ∧ ClockOn w' O' b (N + 1) (addC A s.data.toList c) := fun w' hg hb => by
    have e : addC A s.data.toList c = A := by
      funext k
      unfold addC
      split
      · rename_i e; rw [e]; simp [addS, hb]
      · rfl
    refine ⟨O, fun g hg => .inl hg, Kept.grown hg (fun k hk => by simp at hk), D, sv, ?_⟩
    rw [e]
    have h' := h.far (W' := w') fun g hO => hg.block g (h.lt g hO) (by simp)
    exact h'.more (fun g hg => hg) h'.lt (Nat.le_succ _)
  by_cases hle : c ≤ (A s.data.toList).1
  · refine (add_le h s hs c hle).mono ?_
    rintro e w' ⟨rfl, hg⟩
    exact ⟨rfl, same w' hg (by simp [hasB, hle])⟩
  · cases hin : inB (A s.data.toList).2 c
    · exact add_new h hN s hs c hc hle hin
    · refine (add_in h hN s hs c hle hin).mono ?_
      rintro e w' ⟨rfl, hg⟩
      exact ⟨rfl, same w' hg (by simp [hasB, hin])⟩
end Go.Proofs.Qxb6000536a.ck
