import Derived.Test.Qxb6000536aSeen
import Derived.Test.Qxb6000536aDelete
import Derived.Deep.QuietTactic
import Derived.BigQuiet
namespace Go.Proofs.Qxb6000536a.ck
open Go.RowKit Go.Lib
set_option linter.unusedVariables false

/-- The cells of a row that is owned. -/
theorem own_cell {w : World} {base n : Nat} {v : Value} {l : List Int} (h : w.ownsRow base 32 1 v n (U l)) {g c : Nat} (hv : v = .slice (some ⟨g, 0, none⟩) n c) (j : Nat) (hj : j < l.length) : w.cell? ⟨g, j, none⟩ = some (.int .u64 (l.getD j 0)) := by
  have := h.cells (g := g) (by rw [hv]; rfl) j _ (U_get l j hj)
  rwa [addr_add, Nat.zero_add] at this

/-- What a row is good for hangs on its own block alone. -/
theorem own_far {w w' : World} {base : Nat} {e : TypeId} {sz : Nat} {v : Value} {n : Nat} {xs : List Value} (h : w.ownsRow base e sz v n xs) (hs : ∀ g, v.ownBlock = some g → w'.heap[g]? = w.heap[g]?) : w'.ownsRow base e sz v n xs := by
  obtain ⟨h1, h2⟩ := h
  refine ⟨h1, ?_⟩
  rcases h2 with h2 | ⟨g, cap, cur, rfl, hb, hg, r⟩
  · exact .inl h2
  · exact .inr ⟨g, cap, cur, rfl, hb, by rw [hs g rfl]; exact hg, r⟩
theorem grown_setCell {w w2 : World} {row : Option Nat} (h : w.grownBy w2 row) {a : Addr} (ha : w.heap.size ≤ a.block) (v : Value) : w.grownBy (w2.setCell a v) row :=
  ⟨h.os, h.tape, h.output, by simpa [World.setCell] using h.size, fun i hi hn => by rw [Below.heap_setCell _ _ _ _ (by omega)]; exact h.block i hi hn⟩

/-- In the middle of folded's loop. -/
structure FoldRel (w : World) (b : Int) (sv : Value) (k : Nat) (W : World) : Prop where
  c0 : W.cell? ⟨w.heap.size, 0, none⟩ = some (.int .u64 (b + k))
  c1 : W.cell? ⟨w.heap.size, 1, none⟩ = some sv
  f0 : W.frozen? ⟨w.heap.size, 0, none⟩ = false
  f1 : W.frozen? ⟨w.heap.size, 1, none⟩ = false
  r0 : W.cell? ⟨w.heap.size + 1, 0, none⟩ = some (.int .u64 0)
  r1 : W.cell? ⟨w.heap.size + 1, 1, none⟩ = some (.slice none 0 0)
  g0 : W.frozen? ⟨w.heap.size + 1, 0, none⟩ = false
  g1 : W.frozen? ⟨w.heap.size + 1, 1, none⟩ = false
  size : W.heap.size = w.heap.size + 2
  below : w.grownBy W none

theorem FoldRel.start (w : World) (b : Int) (sv : Value) : FoldRel w b sv 0 ((w.alloc (.cells #[.int .u64 b, sv] 36)).alloc (.cells #[.int .u64 0, .slice none 0 0] 36)) := by
  refine ⟨by simp, by simp, by simp, by simp, ?_, ?_, ?_, ?_, by simp, ?_⟩
  · simp
  · simp
  · simp
  · simp
  · exact (World.grownBy_alloc w _ none).trans (World.grownBy_alloc _ _ none)

theorem FoldRel.drewN {w W : World} {b : Int} {sv : Value} {k : Nat} (h : FoldRel w b sv k W) (q : Nat) : FoldRel w b sv k (W.drewN q) :=
  ⟨h.c0, h.c1, h.f0, h.f1, h.r0, h.r1, h.g0, h.g1, h.size, ⟨h.below.os, h.below.tape, h.below.output, h.below.size, h.below.block⟩⟩

theorem FoldRel.step {w W : World} {b : Int} {sv : Value} {k : Nat} (h : FoldRel w b sv k W) : FoldRel w b sv (k + 1) (W.setCell ⟨w.heap.size, 0, none⟩ (.int .u64 (b + k + 1))) := by
  refine ⟨?_, ?_, ?_, ?_, ?_, ?_, ?_, ?_, ?_, ?_⟩
  · rw [World.cell?_setCell_same _ _ _ h.c0, show b + ((k + 1 : Nat) : Int) = b + k + 1 by omega]
  · rw [World.cell?_setCell_other _ _ _ _ (by simp)]; exact h.c1
  · rw [World.frozen?_setCell]; exact h.f0
  · rw [World.frozen?_setCell]; exact h.f1
  · rw [World.cell?_setCell_other _ _ _ _ (by simp)]; exact h.r0
  · rw [World.cell?_setCell_other _ _ _ _ (by simp)]; exact h.r1
  · rw [World.frozen?_setCell]; exact h.g0
  · rw [World.frozen?_setCell]; exact h.g1
  · simpa [World.setCell] using h.size
  · exact ⟨h.below.os, h.below.tape, h.below.output, by simpa [World.setCell] using h.below.size, fun i hi hn => by rw [Below.heap_setCell _ _ _ _ (by show i ≠ w.heap.size; omega)]; exact h.below.block i hi hn⟩

theorem FoldRel.after {w W w2 : World} {b : Int} {sv : Value} {k g q : Nat} (h : FoldRel w b sv k W) (hg : (W.drewN q).grownBy w2 (some g)) (hl : g < w.heap.size) :
    (w2.cell? ⟨w.heap.size, 0, none⟩ = some (.int .u64 (b + k)) ∧ w2.cell? ⟨w.heap.size, 1, none⟩ = some sv ∧ w2.frozen? ⟨w.heap.size, 0, none⟩ = false ∧ w2.frozen? ⟨w.heap.size, 1, none⟩ = false) ∧
    (w2.cell? ⟨w.heap.size + 1, 0, none⟩ = some (.int .u64 0) ∧ w2.cell? ⟨w.heap.size + 1, 1, none⟩ = some (.slice none 0 0) ∧ w2.frozen? ⟨w.heap.size + 1, 0, none⟩ = false ∧ w2.frozen? ⟨w.heap.size + 1, 1, none⟩ = false) ∧ w.grownBy w2 (some g) := by
  have hsz : (W.drewN q).heap.size = w.heap.size + 2 := h.size
  refine ⟨⟨?_, ?_, ?_, ?_⟩, ⟨?_, ?_, ?_, ?_⟩, ?_⟩
  · rw [hg.cell_far _ (by rw [hsz]; show w.heap.size < _; omega) (by simp; omega)]; exact h.c0
  · rw [hg.cell_far _ (by rw [hsz]; show w.heap.size < _; omega) (by simp; omega)]; exact h.c1
  · rw [hg.frozen_far _ (by rw [hsz]; show w.heap.size < _; omega) (by simp; omega)]; exact h.f0
  · rw [hg.frozen_far _ (by rw [hsz]; show w.heap.size < _; omega) (by simp; omega)]; exact h.f1
  · rw [hg.cell_far _ (by rw [hsz]; show w.heap.size + 1 < _; omega) (by simp; omega)]; exact h.r0
  · rw [hg.cell_far _ (by rw [hsz]; show w.heap.size + 1 < _; omega) (by simp; omega)]; exact h.r1
  · rw [hg.frozen_far _ (by rw [hsz]; show w.heap.size + 1 < _; omega) (by simp; omega)]; exact h.g0
  · rw [hg.frozen_far _ (by rw [hsz]; show w.heap.size + 1 < _; omega) (by simp; omega)]; exact h.g1
  · exact ⟨hg.os.trans h.below.os, hg.tape.trans h.below.tape, hg.output.trans h.below.output, by have := hg.size; omega, fun i hi hn => (hg.block i (by omega) hn).trans (h.below.block i hi (by simp))⟩

set_option maxHeartbeats 4000000 in
set_option maxRecDepth 100000 in
theorem folded_any (w : World) (base n g cap : Nat) (b : Int) (l : List Int) (hown : w.ownsRow base 32 1 (.slice (some ⟨g, 0, none⟩) n cap) n (U l)) (h0 : 0 ≤ b) (hb : b < 1152921504606846976) (hn : n < 1099511627776) :
    Calls Try.prog 28 #[.agg #[.int .u64 b, .slice (some ⟨g, 0, none⟩) n cap]] w fun e w' => ∃ v, e = .returned (.agg #[.int .u64 (foldS b l).1, v]) ∧ w'.ownsRow base 32 1 v (foldS b l).2.length (U (foldS b l).2) ∧ w.grownBy w' (some g) ∧ (v.ownBlock = none ∨ v.ownBlock = some g) := by
  have hl : l.length = n := by have := hown.1; rw [U_length] at this; omega
  have hrl := runLen_le b l
  have hglt : g < w.heap.size := (hown.lt g rfl).2
  have HO : Hid (w.ownsRow base 32 1 (.slice (some ⟨g, 0, none⟩) n cap) n (U l) ∧ l.length = n ∧ runLen b l ≤ l.length) := ⟨hown, hl, hrl⟩
  clear hown hl hrl
  go_enter Try.func28, Try.ntmps28
  go_wp2
  go_loopw [3] (fun s3 W => ∃ k : Nat, s3 = .int .i64 k ∧ k ≤ runLen b l ∧ FoldRel w b (.slice (some ⟨g, 0, none⟩) n cap) k W) (fun s3 _ => runLen b l - (intOf s3).toNat)
  case atStart => exact ⟨0, rfl, Nat.zero_le _, FoldRel.start w b _⟩
  case round =>
    obtain ⟨k, rfl, hk, hR⟩ := hrel
    have hcell : ∀ j, j < l.length → wr.cell? ⟨g, j, none⟩ = some (.int .u64 (l.getD j 0)) := fun j hj => by
      rw [hR.below.cell_far ⟨g, j, none⟩ hglt (by simp)]; exact own_cell HO.out.1 rfl j hj
    have htest := runLen_test b l k hk
    have hkn : k ≤ n := by have := HO.out; omega
    have c0 := hR.c0
    have c1 := hR.c1
    have f0 := hR.f0
    have f1 := hR.f1
    by_cases hlt : k < runLen b l
    · have ⟨t1, t2⟩ := htest.2 hlt
      have hc := hcell k t1
      rw [t2] at hc
      have hk1 : (k : Int) < (n : Int) := by have := HO.out; omega
      clear hcell htest t1 t2
      go_wp2
      go_quiet (fail)
      go_wp2
      exact ⟨⟨k + 1, by go_num, by omega, (hR.drewN nq).step⟩, by simp [intOf]; omega⟩
    · have hkr : k = runLen b l := by omega
      have hHO := HO.out
      have HK : Hid (k = runLen b l) := hkr
      have hmm : ¬ (k < l.length ∧ l.getD k 0 = b + k + 1) := fun h => hlt (htest.1 h)
      have hown : wr.ownsRow base 32 1 (.slice (some ⟨g, 0, none⟩) n cap) n (U l) := hHO.1.kept hR.below (.inr (by simp [Value.ownBlock]))
      have HW : Hid (wr.ownsRow base 32 1 (.slice (some ⟨g, 0, none⟩) n cap) n (U l)) := hown
      clear hown
      by_cases hkl : k < n
      · have hc := hcell k (by omega)
        have hne : (l.getD k 0 == b + k + 1) = false := by
          rw [beq_eq_false_iff_ne]; exact fun h => hmm ⟨by omega, h⟩
        have hk1 : (k : Int) < (n : Int) := by omega
        generalize l.getD k 0 = y at hc hne
        clear hcell htest hmm hHO hkr
        go_wp2
        go_quiet (fail)
        go_wp2_with fail
        refine (delete_some base n k g cap l _ (by exact HW.out) hkn).mono ?_
        rintro e w2 ⟨rfl, hown2, hgr2⟩
        obtain ⟨⟨d0, d1, e0, e1⟩, ⟨d2, d3, e2, e3⟩, hgr⟩ := hR.after hgr2 hglt
        have HE : Hid (w2.ownsRow base 32 1 (.slice (some ⟨g, 0, none⟩) (n - k) cap) (n - k) (U (l.drop k)) ∧ w.grownBy w2 (some g) ∧ FoldRel w b (.slice (some ⟨g, 0, none⟩) n cap) k wr) := ⟨hown2, hgr, hR⟩
        have hnz : (((n - k : Nat) : Int) == 0) = false := by simp; omega
        clear hown2 hgr2 hgr hR c0 c1 f0 f1 hc hne
        go_wp2
        have hE := HE.out
        have hr := HK.out
        refine bodyPost_ret (v := .agg #[.int .u64 (b + k), .slice (some ⟨g, 0, none⟩) (n - k) cap]) (by simp [results, Try.results28, go_sem, d2, d3]) rfl ⟨.slice (some ⟨g, 0, none⟩) (n - k) cap, ?_, ?_, ?_, .inr rfl⟩
        · rw [hr]; rfl
        · have hfl : (foldS b l).2.length = n - k := by have := HO.out; simp [foldS, ← hr]; omega
          rw [hfl, show (foldS b l).2 = l.drop k by rw [hr]; rfl]
          refine own_far hE.1 fun g' hg' => ?_
          simp only [Value.ownBlock, Option.some.injEq] at hg'
          subst hg'
          rw [Below.heap_setCell _ _ _ _ (by show g ≠ w.heap.size + 1; omega), Below.heap_setCell _ _ _ _ (by show g ≠ w.heap.size + 1; omega), Below.heap_setCell _ _ _ _ (by show g ≠ w.heap.size; omega)]
        · exact grown_setCell (grown_setCell (grown_setCell hE.2.1 (Nat.le_refl _) _) (Nat.le_succ _) _) (Nat.le_succ _) _
      · have hd : decide ((k : Int) < (n : Int)) = false := decide_eq_false (by omega)
        clear hcell htest hmm hHO hkr
        go_wp2
        go_quiet (fail)
        go_wp2_with fail
        refine (delete_some base n k g cap l _ (by exact HW.out) hkn).mono ?_
        rintro e w2 ⟨rfl, hown2, hgr2⟩
        obtain ⟨⟨d0, d1, e0, e1⟩, ⟨d2, d3, e2, e3⟩, hgr⟩ := hR.after hgr2 hglt
        have HE : Hid (w2.ownsRow base 32 1 (.slice (some ⟨g, 0, none⟩) (n - k) cap) (n - k) (U (l.drop k)) ∧ w.grownBy w2 (some g) ∧ FoldRel w b (.slice (some ⟨g, 0, none⟩) n cap) k wr) := ⟨hown2, hgr, hR⟩
        have hnz : (((n - k : Nat) : Int) == 0) = true := by simp; omega
        clear hown2 hgr2 hgr hR c0 c1 f0 f1
        go_wp2
        have hE := HE.out
        have hr := HK.out
        have hfl : (foldS b l).2 = [] := by
          have := HO.out
          show l.drop (runLen b l) = []
          rw [← hr]; exact List.drop_of_length_le (by omega)
        refine bodyPost_ret (v := .agg #[.int .u64 (b + k), .slice none 0 0]) (by simp [results, Try.results28, go_sem, d2, d3]) rfl ⟨.slice none 0 0, ?_, ?_, ?_, .inl rfl⟩
        · rw [hr]; rfl
        · rw [hfl]; exact World.ownsRow_nil _ _ _ _
        · exact grown_setCell (grown_setCell (grown_setCell (grown_setCell hE.2.1 (Nat.le_refl _) _) (Nat.le_refl _) _) (Nat.le_succ _) _) (Nat.le_succ _) _
end Go.Proofs.Qxb6000536a.ck
