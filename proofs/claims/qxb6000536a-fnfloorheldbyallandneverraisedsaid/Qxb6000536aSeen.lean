import Derived.Test.Qxb6000536aSearch
/- THE PLAIN LAWS: what a clock's entry is, what Add and HasAll do to it. No Go in sight. -/
namespace Go.Proofs.Qxb6000536a.ck

abbrev Sn := Int × List Int

/-- The entry holds the write y. -/
def Has (S : Sn) (y : Int) : Prop := y ≤ S.1 ∨ y ∈ S.2
def hasB (S : Sn) (y : Int) : Bool := decide (y ≤ S.1) || inB S.2 y
theorem inB_iff (l : List Int) (y : Int) : inB l y = true ↔ y ∈ l := by simp [inB]
theorem hasB_iff (S : Sn) (y : Int) : hasB S y = true ↔ Has S y := by simp [hasB, Has, inB_iff]

structure Canon (S : Sn) : Prop where
  pos : 0 ≤ S.1
  srt : S.2.Pairwise (· < ·)
  gap : ∀ x ∈ S.2, S.1 + 1 < x
  top : ∀ x ∈ S.2, x < 18446744073709551616

theorem canon_zero : Canon (0, []) := ⟨by simp, by simp, by simp, by simp⟩

/-- How far the counters follow on from b. -/
def runLen : Int → List Int → Nat
  | _, [] => 0
  | b, x :: r => if x = b + 1 then runLen (b + 1) r + 1 else 0
def foldS (b : Int) (l : List Int) : Sn := (b + runLen b l, l.drop (runLen b l))

theorem runLen_le : ∀ (b : Int) (l : List Int), runLen b l ≤ l.length
  | _, [] => by simp [runLen]
  | b, x :: r => by
    simp only [runLen]; split
    · have := runLen_le (b + 1) r; simp; omega
    · simp
/-- The loop's test. -/
theorem runLen_test : ∀ (b : Int) (l : List Int) (n : Nat), n ≤ runLen b l → ((n < l.length ∧ l.getD n 0 = b + n + 1) ↔ n < runLen b l)
  | b, [], n, h => by simp [runLen]
  | b, x :: r, 0, h => by
    simp only [runLen, List.getD_cons_zero, List.length_cons]
    split <;> simp [*]
  | b, x :: r, n + 1, h => by
    simp only [runLen] at h ⊢
    split
    · rename_i hx
      rw [if_pos hx] at h
      have ih := runLen_test (b + 1) r n (by omega)
      simp only [List.getD_cons_succ, List.length_cons]
      rw [show b + ((n + 1 : Nat) : Int) + 1 = b + 1 + n + 1 by omega]
      constructor
      · intro ⟨h1, h2⟩; have := ih.1 ⟨by omega, h2⟩; omega
      · intro h1; have := ih.2 (by omega); exact ⟨by omega, this.2⟩
    · rename_i hx; rw [if_neg hx] at h; omega

/-- What folding makes of a base and counters above it. -/
theorem foldS_spec : ∀ (b : Int) (l : List Int), 0 ≤ b → l.Pairwise (· < ·) → (∀ x ∈ l, b < x) → (∀ x ∈ l, x < 18446744073709551616) →
    Canon (foldS b l) ∧ (∀ y, Has (foldS b l) y ↔ Has (b, l) y) ∧ b ≤ (foldS b l).1 ∧ (foldS b l).1 + (foldS b l).2.length = b + l.length
  | b, [], h0, _, _, _ => by
    refine ⟨⟨by simpa [foldS, runLen] using h0, by simp [foldS, runLen], by simp [foldS, runLen], by simp [foldS, runLen]⟩, fun y => by simp [foldS, runLen], by simp [foldS, runLen], by simp [foldS, runLen]⟩
  | b, x :: r, h0, hs, hg, ht => by
    rw [List.pairwise_cons] at hs
    by_cases hx : x = b + 1
    · have e : foldS b (x :: r) = foldS (b + 1) r := by
        simp only [foldS, runLen, if_pos hx, List.drop_succ_cons, Prod.mk.injEq, and_true]; omega
      obtain ⟨c, i, m, n⟩ := foldS_spec (b + 1) r (by omega) hs.2 (fun y hy => by have := hs.1 y hy; omega) (fun y hy => ht y (by simp [hy]))
      rw [e]
      refine ⟨c, fun y => ?_, by omega, by rw [n]; simp; omega⟩
      rw [i y]
      simp only [Has, List.mem_cons]
      constructor
      · rintro (h | h)
        · by_cases hy : y ≤ b
          · exact .inl hy
          · exact .inr (.inl (by omega))
        · exact .inr (.inr h)
      · rintro (h | h | h)
        · exact .inl (by omega)
        · exact .inl (by omega)
        · exact .inr h
    · have e : foldS b (x :: r) = (b, x :: r) := by simp [foldS, runLen, hx]
      rw [e]
      refine ⟨⟨h0, List.pairwise_cons.2 hs, ?_, ht⟩, fun y => Iff.rfl, Int.le_refl _, rfl⟩
      intro y hy
      have h1 := hg x (by simp)
      rcases List.mem_cons.1 hy with rfl | h
      · show b + 1 < y; omega
      · have := hs.1 y h; show b + 1 < y; omega

/-- The counters with c laid in its place. -/
def insS (l : List Int) (c : Int) : List Int := l.take (posOf l c) ++ c :: l.drop (posOf l c)
theorem posOf_le (l : List Int) (c : Int) : posOf l c ≤ l.length := by unfold posOf; exact List.countP_le_length
theorem mem_insS (l : List Int) (c y : Int) : y ∈ insS l c ↔ y = c ∨ y ∈ l := by
  unfold insS
  rw [List.mem_append, List.mem_cons]
  conv => rhs; rw [← List.take_append_drop (posOf l c) l, List.mem_append]
  constructor
  · rintro (h | h | h)
    · exact .inr (.inl h)
    · exact .inl h
    · exact .inr (.inr h)
  · rintro (h | h | h)
    · exact .inr (.inl h)
    · exact .inl h
    · exact .inr (.inr h)
theorem length_insS (l : List Int) (c : Int) : (insS l c).length = l.length + 1 := by
  have := posOf_le l c
  unfold insS; simp; omega
theorem insS_cons (x : Int) (r : List Int) (c : Int) (hs : (x :: r).Pairwise (· < ·)) : insS (x :: r) c = if x < c then x :: insS r c else c :: x :: r := by
  rw [List.pairwise_cons] at hs
  by_cases h : x < c
  · rw [if_pos h]
    simp [insS, posOf, h]
  · rw [if_neg h]
    have : r.countP (fun y => decide (y < c)) = 0 := by
      rw [List.countP_eq_zero]; intro y hy; have := hs.1 y hy; simp; omega
    simp [insS, posOf, h, this]
theorem insS_sorted : ∀ (l : List Int) (c : Int), l.Pairwise (· < ·) → c ∉ l → (insS l c).Pairwise (· < ·)
  | [], c, _, _ => by simp [insS, posOf]
  | x :: r, c, hs, hc => by
    rw [insS_cons x r c hs]
    have hs' := hs
    rw [List.pairwise_cons] at hs
    simp only [List.mem_cons, not_or] at hc
    split
    · rename_i h
      rw [List.pairwise_cons]
      refine ⟨fun y hy => ?_, insS_sorted r c hs.2 hc.2⟩
      rcases (mem_insS r c y).1 hy with rfl | h'
      · exact h
      · exact hs.1 y h'
    · rename_i h
      rw [List.pairwise_cons]
      refine ⟨fun y hy => ?_, hs'⟩
      rcases List.mem_cons.1 hy with rfl | h'
      · omega
      · have := hs.1 y h'; omega

/-- Add. -/
def addS (S : Sn) (c : Int) : Sn := if hasB S c = true then S else foldS S.1 (insS S.2 c)

theorem addS_spec (S : Sn) (c : Int) (hS : Canon S) (hc : c < 18446744073709551616) :
    Canon (addS S c) ∧ (∀ y, Has (addS S c) y ↔ Has S y ∨ y = c ∨ y ≤ S.1) ∧ S.1 ≤ (addS S c).1 ∧ (addS S c).1 + (addS S c).2.length ≤ S.1 + S.2.length + 1 := by
  unfold addS
  split
  · rename_i h
    rw [hasB_iff] at h
    refine ⟨hS, fun y => ⟨fun h' => .inl h', ?_⟩, Int.le_refl _, by omega⟩
    rintro (h' | rfl | h')
    · exact h'
    · exact h
    · exact .inl h'
  · rename_i h
    rw [hasB_iff] at h
    have h1 : ¬ c ≤ S.1 := fun h' => h (.inl h')
    have h2 : c ∉ S.2 := fun h' => h (.inr h')
    obtain ⟨a, i, m, n⟩ := foldS_spec S.1 (insS S.2 c) hS.pos (insS_sorted S.2 c hS.srt h2)
      (fun x hx => by rcases (mem_insS _ _ _).1 hx with rfl | h'; (· omega); (· have := hS.gap x h'; omega))
      (fun x hx => by rcases (mem_insS _ _ _).1 hx with rfl | h'; (· exact hc); (· exact hS.top x h'))
    refine ⟨a, fun y => ?_, m, by rw [n, length_insS]; omega⟩
    rw [i y]
    simp only [Has, mem_insS]
    constructor
    · rintro (h' | h' | h')
      · exact .inr (.inr h')
      · exact .inr (.inl h')
      · exact .inl (.inr h')
    · rintro ((h' | h') | h' | h')
      · exact .inl h'
      · exact .inr (.inr h')
      · exact .inr (.inl h')
      · exact .inl h'

theorem addS_has (S : Sn) (c : Int) (hS : Canon S) (hc : c < 18446744073709551616) (y : Int) : Has (addS S c) y ↔ Has S y ∨ y = c := by
  rw [(addS_spec S c hS hc).2.1 y]
  constructor
  · rintro (h | h | h)
    · exact .inl h
    · exact .inr h
    · exact .inl (.inl h)
  · rintro (h | h)
    · exact .inl h
    · exact .inr (.inl h)

theorem sorted_ext : ∀ (l r : List Int), l.Pairwise (· < ·) → r.Pairwise (· < ·) → (∀ y, y ∈ l ↔ y ∈ r) → l = r
  | [], [], _, _, _ => rfl
  | [], y :: r, _, _, h => by have := (h y).2 (by simp); simp at this
  | x :: l, [], _, _, h => by have := (h x).1 (by simp); simp at this
  | x :: l, y :: r, hl, hr, h => by
    rw [List.pairwise_cons] at hl hr
    have hxy : x = y := by
      rcases List.mem_cons.1 ((h x).1 (by simp)) with e | e
      · exact e
      · rcases List.mem_cons.1 ((h y).2 (by simp)) with e' | e'
        · exact e'.symm
        · have := hr.1 x e; have := hl.1 y e'; omega
    subst hxy
    congr 1
    refine sorted_ext l r hl.2 hr.2 fun z => ⟨fun hz => ?_, fun hz => ?_⟩
    · rcases List.mem_cons.1 ((h z).1 (by simp [hz])) with e | e
      · subst e; have := hl.1 z hz; omega
      · exact e
    · rcases List.mem_cons.1 ((h z).2 (by simp [hz])) with e | e
      · subst e; have := hr.1 z hz; omega
      · exact e

/-- Two canonical entries that hold the same writes are one. -/
theorem canon_ext {S T : Sn} (hS : Canon S) (hT : Canon T) (h : ∀ y, Has S y ↔ Has T y) : S = T := by
  have h1 : ∀ {S T : Sn}, Canon S → (∀ y, Has S y ↔ Has T y) → T.1 ≤ S.1 := by
    intro S T hS h
    rcases Int.lt_or_le S.1 T.1 with hlt | hle
    · rcases (h (S.1 + 1)).2 (.inl (by omega)) with h' | h'
      · omega
      · have := hS.gap _ h'; omega
    · exact hle
  have e1 : S.1 = T.1 := by have := h1 hS h; have := h1 hT (fun y => (h y).symm); omega
  have e2 : S.2 = T.2 := by
    refine sorted_ext _ _ hS.srt hT.srt fun y => ⟨fun hy => ?_, fun hy => ?_⟩
    · rcases (h y).1 (.inr hy) with h' | h'
      · have := hS.gap y hy; omega
      · exact h'
    · rcases (h y).2 (.inr hy) with h' | h'
      · have := hT.gap y hy; omega
      · exact h'
  exact Prod.ext e1 e2

/-- HasAll's first loop: k counters from a on. -/
def uptoB (M : Sn) (a : Int) : Nat → Bool
  | 0 => true
  | k + 1 => uptoB M a k && hasB M (a + k)
def skipB (M s : Sn) : Bool := decide (M.1 < s.1 ∧ (M.2.length : Int) < s.1 - M.1)
def hasAllB (M s : Sn) : Bool := !skipB M s && (uptoB M (M.1 + 1) (s.1 - M.1).toNat && s.2.all (hasB M))

theorem uptoB_iff (M : Sn) (a : Int) : ∀ k, uptoB M a k = true ↔ ∀ j : Nat, j < k → hasB M (a + j) = true
  | 0 => by simp [uptoB]
  | k + 1 => by
    simp only [uptoB, Bool.and_eq_true, uptoB_iff M a k]
    constructor
    · intro ⟨h1, h2⟩ j hj
      by_cases e : j = k
      · subst e; exact h2
      · exact h1 j (by omega)
    · intro h; exact ⟨fun j hj => h j (by omega), h k (by omega)⟩

theorem hasAllB_iff (M s : Sn) (hM : Canon M) : hasAllB M s = true ↔ ∀ y, Has s y → Has M y := by
  unfold hasAllB skipB
  simp only [Bool.and_eq_true, Bool.not_eq_true', decide_eq_false_iff_not, uptoB_iff, List.all_eq_true, hasB_iff]
  constructor
  · rintro ⟨_, h2, h3⟩ y (hy | hy)
    · by_cases h : y ≤ M.1
      · exact .inl h
      · have := h2 (y - (M.1 + 1)).toNat (by omega)
        rwa [show M.1 + 1 + ((y - (M.1 + 1)).toNat : Int) = y by omega] at this
    · exact h3 y hy
  · intro h
    refine ⟨?_, fun j hj => h _ (.inl (by omega)), fun y hy => h y (.inr hy)⟩
    rintro ⟨h1, _⟩
    rcases h (M.1 + 1) (.inl (by omega)) with h' | h'
    · omega
    · have := hM.gap _ h'; omega

/-! ### A clock: an entry a node -/
abbrev Key := List UInt8
abbrev Clk := Key → Sn
def zeroC : Clk := fun _ => (0, [])
def addC (A : Clk) (k : Key) (c : Int) : Clk := fun k' => if k' = k then addS (A k) c else A k'
theorem addC_same (A : Clk) (k : Key) (c : Int) : addC A k c k = addS (A k) c := by simp [addC]
theorem addC_other (A : Clk) (k k' : Key) (c : Int) (h : k' ≠ k) : addC A k c k' = A k' := by simp [addC, h]
end Go.Proofs.Qxb6000536a.ck
