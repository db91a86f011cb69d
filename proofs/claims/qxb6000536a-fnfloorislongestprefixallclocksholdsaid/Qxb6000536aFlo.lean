import Derived.Test.Qxb6000536aMaps
namespace Go.Proofs.Qxb6000536a.ck
open Go.RowKit Go.Lib Go.Maps
set_option linter.unusedVariables false

/-! ### Plain: the lowest base -/
def floAt (A : Nat → Clk) (k : Key) : Nat → Int
  | 0 => (A 0 k).1
  | m + 1 => min (floAt A k m) (A (m + 1) k).1
def floF (A : Nat → Clk) (n : Nat) (k : Key) : Int := if n = 0 then 0 else floAt A k (n - 1)

theorem floAt_le (A : Nat → Clk) (k : Key) : ∀ m i, i ≤ m → floAt A k m ≤ (A i k).1
  | 0, i, h => by
    have : i = 0 := by omega
    subst this; exact Int.le_refl _
  | m + 1, i, h => by
    by_cases e : i = m + 1
    · subst e; exact Int.min_le_right _ _
    · exact Int.le_trans (Int.min_le_left _ _) (floAt_le A k m i (by omega))
theorem floAt_get (A : Nat → Clk) (k : Key) : ∀ m, ∃ i, i ≤ m ∧ floAt A k m = (A i k).1
  | 0 => ⟨0, Nat.le_refl _, rfl⟩
  | m + 1 => by
    obtain ⟨i, hi, h⟩ := floAt_get A k m
    show ∃ i, i ≤ m + 1 ∧ min (floAt A k m) (A (m + 1) k).1 = (A i k).1
    by_cases e : floAt A k m ≤ (A (m + 1) k).1
    · exact ⟨i, by omega, by rw [Int.min_eq_left e, h]⟩
    · exact ⟨m + 1, Nat.le_refl _, Int.min_eq_right (by omega)⟩
theorem floAt_congr (A B : Nat → Clk) (k : Key) : ∀ m, (∀ i, i ≤ m → A i k = B i k) → floAt A k m = floAt B k m
  | 0, h => by show (A 0 k).1 = (B 0 k).1; rw [h 0 (Nat.le_refl _)]
  | m + 1, h => by
    show min (floAt A k m) (A (m + 1) k).1 = min (floAt B k m) (B (m + 1) k).1
    rw [floAt_congr A B k m (fun i hi => h i (by omega)), h (m + 1) (Nat.le_refl _)]

theorem floF_le (A : Nat → Clk) (n : Nat) (k : Key) (i : Nat) (h : i < n) : floF A n k ≤ (A i k).1 := by
  unfold floF; rw [if_neg (by omega)]; exact floAt_le A k _ i (by omega)
theorem floF_pos (A : Nat → Clk) (n : Nat) (k : Key) (h : ∀ i, i < n → Canon (A i k)) : 0 ≤ floF A n k := by
  unfold floF
  split
  · exact Int.le_refl _
  · obtain ⟨i, hi, e⟩ := floAt_get A k (n - 1)
    rw [e]; exact (h i (by omega)).pos
theorem floF_more (A B : Nat → Clk) (n : Nat) (k : Key) (hn : 0 < n) (h : ∀ i, i < n → B i k = A i k) : floF B (n + 1) k ≤ floF A n k := by
  unfold floF
  rw [if_neg (by omega), if_neg (by omega)]
  obtain ⟨m, rfl⟩ : ∃ m, n = m + 1 := ⟨n - 1, by omega⟩
  show min (floAt B k m) _ ≤ floAt A k m
  rw [floAt_congr B A k m (fun i hi => h i (by omega))]
  exact Int.min_le_left _ _

/-! ### Plain: the walk by Has -/
def allB (A : Nat → Clk) (k : Key) (c : Int) : Nat → Bool
  | 0 => true
  | n + 1 => allB A k c n && hasB (A n k) c
theorem allB_iff (A : Nat → Clk) (k : Key) (c : Int) : ∀ n, allB A k c n = true ↔ ∀ i, i < n → Has (A i k) c
  | 0 => by simp [allB]
  | n + 1 => by
    show (allB A k c n && hasB (A n k) c) = true ↔ _
    rw [Bool.and_eq_true, allB_iff A k c n, hasB_iff]
    constructor
    · rintro ⟨h1, h2⟩ i hi
      by_cases e : i = n
      · subst e; exact h2
      · exact h1 i (by omega)
    · intro h; exact ⟨fun i hi => h i (by omega), h n (by omega)⟩
/-- One step of the walk: all clocks hold j + 1 just when j is below the lowest base. -/
theorem allB_step (A : Nat → Clk) (n : Nat) (k : Key) (hn : 0 < n) (hc : ∀ i, i < n → Canon (A i k)) (j : Int) (hj : j ≤ floF A n k) : allB A k (j + 1) n = decide (j < floF A n k) := by
  rw [Bool.eq_iff_iff, allB_iff, decide_eq_true_iff]
  constructor
  · intro h
    unfold floF at hj ⊢
    rw [if_neg (by omega)] at hj ⊢
    obtain ⟨i, hi, e⟩ := floAt_get A k (n - 1)
    rw [e] at hj ⊢
    rcases h i (by omega) with h' | h'
    · omega
    · have := (hc i (by omega)).gap _ h'; omega
  · intro h i hi
    exact .inl (by have := floF_le A n k i hi; omega)

/-! ### A slice of clocks -/
structure Cks (w : World) (r n N : Nat) (O : Nat → Nat → Prop) (b : Nat → Nat) (A : Nat → Clk) : Prop where
  cell : ∀ i, i < n → w.cell? ⟨r, i, none⟩ = some (.map (some (b i)))
  rlt : r < w.heap.size
  clk : ∀ i, i < n → ClockOn w (O i) (b i) N (A i)
  dis : ∀ i j g, i < n → j < n → O i g → O j g → i = j
  low : ∀ i g, i < n → O i g → g ≠ r

variable {w W W' : World} {r n N : Nat} {O : Nat → Nat → Prop} {b : Nat → Nat} {A : Nat → Clk}

theorem ClockOn.canonAt {O : Nat → Prop} {b : Nat} {A : Clk} (h : ClockOn W O b N A) (k : Key) : Canon (A k) := by obtain ⟨D, sv, h⟩ := h; exact h.canon k
theorem ClockOn.cntAt {O : Nat → Prop} {b : Nat} {A : Clk} (h : ClockOn W O b N A) (k : Key) : (A k).1 + (A k).2.length ≤ N := by obtain ⟨D, sv, h⟩ := h; exact h.cnt k
theorem ClockOn.raise {O : Nat → Prop} {b : Nat} {A : Clk} (h : ClockOn W O b N A) {N' : Nat} (hn : N ≤ N') : ClockOn W O b N' A := by obtain ⟨D, sv, h⟩ := h; exact ⟨D, sv, h.more (fun _ h => h) h.lt hn⟩
theorem ClockOn.ltAt {O : Nat → Prop} {b : Nat} {A : Clk} (h : ClockOn W O b N A) (g : Nat) (hg : O g) : g < W.heap.size := by obtain ⟨D, sv, h⟩ := h; exact h.lt g hg

theorem Cks.grown (h : Cks w r n N O b A) (hg : w.grownBy W none) : Cks W r n N O b A :=
  ⟨fun i hi => by rw [World.cell?_of_block (w := w) (a := ⟨r, i, none⟩) (hg.block r h.rlt (by simp))]; exact h.cell i hi, Nat.lt_of_lt_of_le h.rlt hg.size, fun i hi => (h.clk i hi).grown hg, h.dis, h.low⟩
theorem Cks.drew (h : Cks w r n N O b A) : Cks w.drew r n N O b A :=
  ⟨h.cell, h.rlt, fun i hi => (h.clk i hi).far (fun _ _ => rfl), h.dis, h.low⟩
theorem Cks.canon (h : Cks w r n N O b A) (k : Key) (i : Nat) (hi : i < n) : Canon (A i k) := (h.clk i hi).canonAt k
theorem Cks.flo_le (h : Cks w r n N O b A) (k : Key) : floF A n k ≤ N := by
  by_cases hn : n = 0
  · subst hn; simp [floF]
  · have := floF_le A n k 0 (by omega)
    have := (h.clk 0 (by omega)).cntAt k
    omega

/-- One clock was added to. -/
theorem Cks.step {ci : Nat} {O' : Nat → Prop} {A' : Clk} (h : Cks W r n N O b A) (hi : ci < n) (hO : ∀ g, O' g → O ci g ∨ W.heap.size ≤ g ∧ g < W'.heap.size) (hk : Kept (O ci) W W') (hc : ClockOn W' O' (b ci) (N + 1) A') :
    Cks W' r n (N + 1) (fun i => if i = ci then O' else O i) b (fun i => if i = ci then A' else A i) := by
  refine ⟨fun i hi' => ?_, Nat.lt_of_lt_of_le h.rlt hk.size, fun i hi' => ?_, fun i j g h1 h2 hg hg' => ?_, fun i g h1 hg => ?_⟩
  · rw [World.cell?_of_block (w := W) (a := ⟨r, i, none⟩) (hk.block r h.rlt (fun e => h.low ci r hi e rfl))]; exact h.cell i hi'
  · by_cases e : i = ci
    · subst e; simpa using hc
    · simp only [e, if_false]
      exact ((h.clk i hi').far (fun g hg => hk.block g ((h.clk i hi').ltAt g hg) (fun e' => e (h.dis i ci g hi' hi hg e')))).raise (Nat.le_succ _)
  · by_cases e : i = ci <;> by_cases e' : j = ci
    · rw [e, e']
    · simp only [e, if_true, e', if_false] at hg hg'
      rcases hO g hg with h' | ⟨h', _⟩
      · rw [e]; exact h.dis ci j g hi h2 h' hg'
      · exact absurd ((h.clk j h2).ltAt g hg') (by omega)
    · simp only [e, if_false, e', if_true] at hg hg'
      rcases hO g hg' with h' | ⟨h', _⟩
      · rw [e']; exact h.dis i ci g h1 hi hg h'
      · exact absurd ((h.clk i h1).ltAt g hg) (by omega)
    · simp only [e, if_false, e'] at hg hg'
      exact h.dis i j g h1 h2 hg hg'
  · by_cases e : i = ci
    · simp only [e, if_true] at hg
      rcases hO g hg with h' | ⟨h', _⟩
      · exact h.low ci g hi h'
      · have := h.rlt; omega
    · simp only [e, if_false] at hg
      exact h.low i g h1 hg
end Go.Proofs.Qxb6000536a.ck
