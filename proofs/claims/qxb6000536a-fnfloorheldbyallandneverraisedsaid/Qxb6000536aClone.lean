import Derived.Test.Qxb6000536aHas
import Derived.Laws.MakeOwn
import Derived.Lib.SliceRun
namespace Go.Proofs.Qxb6000536a.ck
open Go.RowKit Go.Lib Go.Maps
set_option linter.unusedVariables false

/-- A slice whose elements read as the values vs. -/
def SliceAt (W : World) (v : Value) (vs : List Value) : Prop :=
  ∃ a c, v = .slice a vs.length c ∧ (vs ≠ [] → ∃ b off, a = some ⟨b, off, none⟩ ∧ b < W.heap.size ∧ ∀ j (h : j < vs.length), W.cell? ⟨b, off + j, none⟩ = some vs[j])
theorem SliceAt.kept {W W' : World} {v : Value} {vs : List Value} (h : SliceAt W v vs) (hg : ∀ k, k < W.heap.size → W'.heap[k]? = W.heap[k]?) : SliceAt W' v vs := by
  obtain ⟨a, c, rfl, h⟩ := h
  refine ⟨a, c, rfl, fun hne => ?_⟩
  obtain ⟨b, off, rfl, hb, hc⟩ := h hne
  refine ⟨b, off, rfl, ?_, fun j hj => by rw [World.cell?_of_block (w := W) (hg b hb)]; exact hc j hj⟩
  have h1 := hg b hb
  rw [Array.getElem?_eq_getElem hb] at h1
  exact (Array.getElem?_eq_some_iff.1 h1).1
/-- A row of the call's own reads so. -/
theorem SliceAt.own {W : World} {base : Nat} {e : TypeId} {v : Value} {n : Nat} {vs : List Value} (h : W.ownsRow base e 1 v n vs) : SliceAt W v vs := by
  have hl : vs.length = n := by have := h.1; omega
  rcases h.2 with ⟨rfl, rfl⟩ | ⟨g, cap, cur, rfl, hb, hg, hr⟩
  · exact ⟨none, 0, by rw [hl], fun hne => absurd (List.length_eq_zero_iff.1 hl) hne⟩
  · refine ⟨_, cap, by rw [hl], fun _ => ⟨g, 0, rfl, (Array.getElem?_eq_some_iff.1 hg).1, fun j hj => ?_⟩⟩
    rw [Nat.zero_add]
    have := h.cells (g := g) rfl j vs[j] (List.getElem?_eq_getElem hj)
    rwa [addr_add, Nat.zero_add] at this

/-- In the middle of a copying loop: k cells of the new row are filled. -/
structure Filled (w : World) (e : TypeId) (vs : List Value) (k : Nat) (W : World) : Prop where
  row : ∃ C : Array Value, W.heap[w.heap.size]? = some (.cells C e (0, 0)) ∧ C.size = vs.length ∧ C.toList.take k = vs.take k
  gr : w.grownBy W none
theorem Filled.cell {w W : World} {e : TypeId} {vs : List Value} {k : Nat} (h : Filled w e vs k W) (hk : k < vs.length) : ∃ u, W.cell? ⟨w.heap.size, k, none⟩ = some u := by
  obtain ⟨C, hC, hs, _⟩ := h.row
  exact ⟨C[k], by rw [cell_of_row _ _ _ _ _ _ hC]; exact Array.getElem?_eq_getElem (by omega)⟩
theorem Filled.frozen {w W : World} {e : TypeId} {vs : List Value} {k : Nat} (h : Filled w e vs k W) (j : Nat) : W.frozen? ⟨w.heap.size, j, none⟩ = false := by
  obtain ⟨C, hC, _⟩ := h.row
  exact frozen_row hC j
theorem Filled.step {w W : World} {e : TypeId} {vs : List Value} {k : Nat} (h : Filled w e vs k W) (hk : k < vs.length) : Filled w e vs (k + 1) (W.setCell ⟨w.heap.size, k, none⟩ vs[k]) := by
  obtain ⟨C, hC, hs, ht⟩ := h.row
  refine ⟨⟨C.setIfInBounds k vs[k], ?_, by simp [hs], ?_⟩, grown_setCell h.gr (Nat.le_refl _) _⟩
  · have hlt := (Array.getElem?_eq_some_iff.1 hC).1
    have hv := (Array.getElem?_eq_some_iff.1 hC).2
    simp [World.setCell, Array.getElem?_modify, hC]
  · rw [List.take_succ_eq_append_getElem (by simp [hs]; omega), List.take_succ_eq_append_getElem hk]
    congr 1
    · rw [← ht]
      apply List.ext_getElem?
      intro j
      simp only [List.getElem?_take, Array.toList_setIfInBounds, List.getElem?_set]
      split
      · split
        · omega
        · rfl
      · rfl
    · simp
theorem Filled.fin {w W : World} {e : TypeId} {vs : List Value} (h : Filled w e vs vs.length W) (hl : vs.length ≤ maxLen) : W.ownsRow w.heap.size e 1 (.slice (some ⟨w.heap.size, 0, none⟩) vs.length vs.length) vs.length vs := by
  obtain ⟨C, hC, hs, ht⟩ := h.row
  exact ⟨by omega, .inr ⟨w.heap.size, vs.length, C, rfl, Nat.le_refl _, hC, Nat.le_refl _, hl, by omega, by rw [Nat.mul_one, ht, List.take_length]⟩⟩

/-- 'xs == nil'. -/
theorem eql_nil (t e : TypeId) (a : Option Addr) (n c : Nat) (h : Try.prog.underlying t = some (.slice e)) (w : World) : (binOp .eql t (.slice a n c) (.slice none 0 0)).run Try.prog w = .ok (.bool a.isNone) w :=
  Lib.run_eql_slice_nil w t e a n c 0 0 h

/-- 'make([]T, n)': a new row. -/
theorem make_row (w : World) (t e : TypeId) (z : Value) (bytes : Nat) (ht : Try.prog.underlying t = some (.slice e)) (hi : (Try.prog.info? e).map (fun i => (i.zero, i.size, i.bytes)) = some (some z, 1, bytes)) (hb : bytes ≤ 16) (vs : List Value) (hn : vs.length < 1000000000000) :
    ∃ W1, (Instr.makeSlice t (.int .i64 vs.length) (.int .i64 vs.length)).run Try.prog w = .ok (.slice (some ⟨w.heap.size, 0, none⟩) vs.length vs.length) W1 ∧ Filled w e vs 0 W1 ∧ W1.heap.size = w.heap.size + 1 := by
  obtain ⟨i0, hi0, hz0, hz1, hz2⟩ := info_parts hi
  have hle : (i0.bytes : Int) * (vs.length : Int) ≤ 281474976710656 := by
    have : i0.bytes * vs.length ≤ 16 * vs.length := Nat.mul_le_mul_right _ (by omega)
    have h2 : ((i0.bytes * vs.length : Nat) : Int) ≤ 281474976710656 := by omega
    rwa [Int.natCast_mul] at h2
  have hr := run_make (P := Try.prog) w t e i0 z ht hi0 hz0 .i64 .i64 vs.length vs.length (by omega) (Int.le_refl _) hle (by omega)
  rw [Int.toNat_natCast] at hr
  refine ⟨_, hr, ⟨⟨madeCells z.cells (vs.length * i0.size), heap_alloc_new w _, by rw [size_madeCells, hz1]; omega, rfl⟩, World.grownBy_alloc w _ none⟩, by simp⟩

theorem info9 : (Try.prog.info? 9).map (fun i => (i.zero, i.size, i.bytes)) = some (some (.string ⟨#[]⟩), 1, 16) := by kernel_rfl
set_option maxHeartbeats 4000000 in
set_option maxRecDepth 100000 in
/-- cloneStrs. -/
theorem cloneStrs_any (w : World) (v : Value) (xs : List ByteArray) (hv : SliceAt w v (xs.map Value.string)) (hn : xs.length < 1000000000000) :
    Calls Try.prog 10 #[v] w fun e w' => ∃ v', e = .returned v' ∧ w'.ownsRow w.heap.size 9 1 v' xs.length (xs.map Value.string) ∧ w.grownBy w' none := by
  obtain ⟨a, c, rfl, hcell⟩ := hv
  have hl : (xs.map Value.string).length = xs.length := by simp
  rw [hl]
  have heq := eql_nil 22 9 a xs.length c Try.underlying22
  cases a with
  | none =>
    have h0 : xs = [] := by
      rcases xs with _ | ⟨x, r⟩
      · rfl
      · obtain ⟨b, off, h, _⟩ := hcell (by simp); simp at h
    subst h0
    clear hcell hl
    simp only [List.length_nil] at heq
    go_enter Try.func10, Try.ntmps10
    go_wp2
    go_ret
    exact ⟨_, rfl, World.ownsRow_nil _ _ _ _, ⟨rfl, rfl, rfl, Nat.le_refl _, fun _ _ _ => rfl⟩⟩
  | some p =>
    obtain ⟨W1, hmk, hf0, hsz⟩ := make_row w 22 9 (.string ⟨#[]⟩) 16 Try.underlying22 info9 (by omega) (xs.map Value.string) (by rw [hl]; exact hn)
    rw [hl] at hmk
    have HC : Hid (∀ k (h : k < xs.length), ∃ b off, p = ⟨b, off, none⟩ ∧ b < w.heap.size ∧ w.cell? ⟨b, off + k, none⟩ = some (Value.string xs[k])) := fun k h => by
      obtain ⟨b, off, hp, hb, hc⟩ := hcell (by intro e; simp at e; subst e; simp at h)
      exact ⟨b, off, by simpa using hp, hb, by have := hc k (by rw [hl]; exact h); rw [this]; simp⟩
    have HF : Hid (Filled w 9 (xs.map Value.string) 0 W1) := hf0
    clear hcell hf0 hl
    go_enter Try.func10, Try.ntmps10
    go_wp2
    go_loopw [4] (fun s4 wr => ∃ k : Nat, s4 = .int .i64 k ∧ k ≤ xs.length ∧ Filled w 9 (xs.map Value.string) k wr) (fun s4 _ => xs.length - (intOf s4).toNat)
    case atStart => exact ⟨0, rfl, Nat.zero_le _, HF.out⟩
    case round =>
      obtain ⟨k, rfl, hk, hfl⟩ := hrel
      by_cases hlt : k < xs.length
      · obtain ⟨b, off, hp, hb, hc⟩ := HC.out k hlt
        subst hp
        have hc' : wr.cell? ⟨b, off + k, none⟩ = some (Value.string xs[k]) := by rw [hfl.gr.cell_far ⟨b, off + k, none⟩ hb (by simp)]; exact hc
        obtain ⟨u, hu⟩ := hfl.cell (by simpa using hlt)
        have hfz := hfl.frozen k
        have HS : Hid (Filled w 9 (xs.map Value.string) (k + 1) (wr.setCell ⟨w.heap.size, k, none⟩ (Value.string xs[k]))) := by
          have := hfl.step (by simpa using hlt); rw [List.getElem_map] at this; exact this
        have hlt' : (k : Int) < (xs.length : Int) := by omega
        generalize xs[k] = x at hc' HS
        clear hc hfl
        go_wp2
        exact ⟨⟨k + 1, by go_num, by omega, HS.out⟩, by simp [intOf]; omega⟩
      · have hke : k = xs.length := by omega
        have HE : Hid (wr.ownsRow w.heap.size 9 1 (.slice (some ⟨w.heap.size, 0, none⟩) xs.length xs.length) xs.length (xs.map Value.string) ∧ w.grownBy wr none) := by
          have h1 : (xs.map Value.string).length = xs.length := by simp
          rw [hke, ← h1] at hfl
          have := hfl.fin (by rw [h1]; unfold maxLen; omega)
          rw [h1] at this
          exact ⟨this, hfl.gr⟩
        clear hke hfl
        go_wp2
        go_ret
        exact ⟨_, rfl, HE.out⟩
set_option maxHeartbeats 4000000 in
set_option maxRecDepth 100000 in
/-- cloneU64. -/
theorem cloneU64_any (w : World) (v : Value) (xs : List Int) (hv : SliceAt w v (xs.map (Value.int .u64))) (hn : xs.length < 1000000000000) :
    Calls Try.prog 11 #[v] w fun e w' => ∃ v', e = .returned v' ∧ w'.ownsRow w.heap.size 32 1 v' xs.length (xs.map (Value.int .u64)) ∧ w.grownBy w' none := by
  obtain ⟨a, c, rfl, hcell⟩ := hv
  have hl : (xs.map (Value.int .u64)).length = xs.length := by simp
  rw [hl]
  have heq := eql_nil 23 32 a xs.length c Try.underlying23
  cases a with
  | none =>
    have h0 : xs = [] := by
      rcases xs with _ | ⟨x, r⟩
      · rfl
      · obtain ⟨b, off, h, _⟩ := hcell (by simp); simp at h
    subst h0
    clear hcell hl
    simp only [List.length_nil] at heq
    go_enter Try.func11, Try.ntmps11
    go_wp2
    go_ret
    exact ⟨_, rfl, World.ownsRow_nil _ _ _ _, ⟨rfl, rfl, rfl, Nat.le_refl _, fun _ _ _ => rfl⟩⟩
  | some p =>
    obtain ⟨W1, hmk, hf0, hsz⟩ := make_row w 23 32 (.int .u64 0) 8 Try.underlying23 info32 (by omega) (xs.map (Value.int .u64)) (by rw [hl]; exact hn)
    rw [hl] at hmk
    have HC : Hid (∀ k (h : k < xs.length), ∃ b off, p = ⟨b, off, none⟩ ∧ b < w.heap.size ∧ w.cell? ⟨b, off + k, none⟩ = some ((Value.int .u64) xs[k])) := fun k h => by
      obtain ⟨b, off, hp, hb, hc⟩ := hcell (by intro e; simp at e; subst e; simp at h)
      exact ⟨b, off, by simpa using hp, hb, by have := hc k (by rw [hl]; exact h); rw [this]; simp⟩
    have HF : Hid (Filled w 32 (xs.map (Value.int .u64)) 0 W1) := hf0
    clear hcell hf0 hl
    go_enter Try.func11, Try.ntmps11
    go_wp2
    go_loopw [4] (fun s4 wr => ∃ k : Nat, s4 = .int .i64 k ∧ k ≤ xs.length ∧ Filled w 32 (xs.map (Value.int .u64)) k wr) (fun s4 _ => xs.length - (intOf s4).toNat)
    case atStart => exact ⟨0, rfl, Nat.zero_le _, HF.out⟩
    case round =>
      obtain ⟨k, rfl, hk, hfl⟩ := hrel
      by_cases hlt : k < xs.length
      · obtain ⟨b, off, hp, hb, hc⟩ := HC.out k hlt
        subst hp
        have hc' : wr.cell? ⟨b, off + k, none⟩ = some ((Value.int .u64) xs[k]) := by rw [hfl.gr.cell_far ⟨b, off + k, none⟩ hb (by simp)]; exact hc
        obtain ⟨u, hu⟩ := hfl.cell (by simpa using hlt)
        have hfz := hfl.frozen k
        have HS : Hid (Filled w 32 (xs.map (Value.int .u64)) (k + 1) (wr.setCell ⟨w.heap.size, k, none⟩ ((Value.int .u64) xs[k]))) := by
          have := hfl.step (by simpa using hlt); rw [List.getElem_map] at this; exact this
        have hlt' : (k : Int) < (xs.length : Int) := by omega
        generalize xs[k] = x at hc' HS
        clear hc hfl
        go_wp2
        exact ⟨⟨k + 1, by go_num, by omega, HS.out⟩, by simp [intOf]; omega⟩
      · have hke : k = xs.length := by omega
        have HE : Hid (wr.ownsRow w.heap.size 32 1 (.slice (some ⟨w.heap.size, 0, none⟩) xs.length xs.length) xs.length (xs.map (Value.int .u64)) ∧ w.grownBy wr none) := by
          have h1 : (xs.map (Value.int .u64)).length = xs.length := by simp
          rw [hke, ← h1] at hfl
          have := hfl.fin (by rw [h1]; unfold maxLen; omega)
          rw [h1] at this
          exact ⟨this, hfl.gr⟩
        clear hke hfl
        go_wp2
        go_ret
        exact ⟨_, rfl, HE.out⟩
theorem info59 : (Try.prog.info? 59).map (fun i => (i.zero, i.size, i.bytes)) = some (some (.int .u16 0), 1, 2) := by kernel_rfl
set_option maxHeartbeats 4000000 in
set_option maxRecDepth 100000 in
/-- cloneU16. -/
theorem cloneU16_any (w : World) (v : Value) (xs : List Int) (hv : SliceAt w v (xs.map (Value.int .u16))) (hn : xs.length < 1000000000000) :
    Calls Try.prog 19 #[v] w fun e w' => ∃ v', e = .returned v' ∧ w'.ownsRow w.heap.size 59 1 v' xs.length (xs.map (Value.int .u16)) ∧ w.grownBy w' none := by
  obtain ⟨a, c, rfl, hcell⟩ := hv
  have hl : (xs.map (Value.int .u16)).length = xs.length := by simp
  rw [hl]
  have heq := eql_nil 41 59 a xs.length c Try.underlying41
  cases a with
  | none =>
    have h0 : xs = [] := by
      rcases xs with _ | ⟨x, r⟩
      · rfl
      · obtain ⟨b, off, h, _⟩ := hcell (by simp); simp at h
    subst h0
    clear hcell hl
    simp only [List.length_nil] at heq
    go_enter Try.func19, Try.ntmps19
    go_wp2
    go_ret
    exact ⟨_, rfl, World.ownsRow_nil _ _ _ _, ⟨rfl, rfl, rfl, Nat.le_refl _, fun _ _ _ => rfl⟩⟩
  | some p =>
    obtain ⟨W1, hmk, hf0, hsz⟩ := make_row w 41 59 (.int .u16 0) 2 Try.underlying41 info59 (by omega) (xs.map (Value.int .u16)) (by rw [hl]; exact hn)
    rw [hl] at hmk
    have HC : Hid (∀ k (h : k < xs.length), ∃ b off, p = ⟨b, off, none⟩ ∧ b < w.heap.size ∧ w.cell? ⟨b, off + k, none⟩ = some ((Value.int .u16) xs[k])) := fun k h => by
      obtain ⟨b, off, hp, hb, hc⟩ := hcell (by intro e; simp at e; subst e; simp at h)
      exact ⟨b, off, by simpa using hp, hb, by have := hc k (by rw [hl]; exact h); rw [this]; simp⟩
    have HF : Hid (Filled w 59 (xs.map (Value.int .u16)) 0 W1) := hf0
    clear hcell hf0 hl
    go_enter Try.func19, Try.ntmps19
    go_wp2
    go_loopw [4] (fun s4 wr => ∃ k : Nat, s4 = .int .i64 k ∧ k ≤ xs.length ∧ Filled w 59 (xs.map (Value.int .u16)) k wr) (fun s4 _ => xs.length - (intOf s4).toNat)
    case atStart => exact ⟨0, rfl, Nat.zero_le _, HF.out⟩
    case round =>
      obtain ⟨k, rfl, hk, hfl⟩ := hrel
      by_cases hlt : k < xs.length
      · obtain ⟨b, off, hp, hb, hc⟩ := HC.out k hlt
        subst hp
        have hc' : wr.cell? ⟨b, off + k, none⟩ = some ((Value.int .u16) xs[k]) := by rw [hfl.gr.cell_far ⟨b, off + k, none⟩ hb (by simp)]; exact hc
        obtain ⟨u, hu⟩ := hfl.cell (by simpa using hlt)
        have hfz := hfl.frozen k
        have HS : Hid (Filled w 59 (xs.map (Value.int .u16)) (k + 1) (wr.setCell ⟨w.heap.size, k, none⟩ ((Value.int .u16) xs[k]))) := by
          have := hfl.step (by simpa using hlt); rw [List.getElem_map] at this; exact this
        have hlt' : (k : Int) < (xs.length : Int) := by omega
        generalize xs[k] = x at hc' HS
        clear hc hfl
        go_wp2
        exact ⟨⟨k + 1, by go_num, by omega, HS.out⟩, by simp [intOf]; omega⟩
      · have hke : k = xs.length := by omega
        have HE : Hid (wr.ownsRow w.heap.size 59 1 (.slice (some ⟨w.heap.size, 0, none⟩) xs.length xs.length) xs.length (xs.map (Value.int .u16)) ∧ w.grownBy wr none) := by
          have h1 : (xs.map (Value.int .u16)).length = xs.length := by simp
          rw [hke, ← h1] at hfl
          have := hfl.fin (by rw [h1]; unfold maxLen; omega)
          rw [h1] at this
          exact ⟨this, hfl.gr⟩
        clear hke hfl
        go_wp2
        go_ret
        exact ⟨_, rfl, HE.out⟩
end Go.Proofs.Qxb6000536a.ck
