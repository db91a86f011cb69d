import Derived.Test.Qxb6000536aFlo
namespace Go.Proofs.Qxb6000536a.ck
open Go.RowKit Go.Lib Go.Maps
set_option linter.unusedVariables false

theorem info29 : (Try.prog.info? 29).map (fun i => (i.zero, i.size, i.bytes)) = some (some (.map none), 1, 8) := by kernel_rfl

/-- The maps of buildMany's first loop, by place. -/
def mapRow (r n : Nat) : List Value := (List.range n).map fun i => Value.map (some (r + 1 + i))
theorem mapRow_length (r n : Nat) : (mapRow r n).length = n := by simp [mapRow]
theorem mapRow_get (r n i : Nat) (h : i < (mapRow r n).length) : (mapRow r n)[i] = .map (some (r + 1 + i)) := by simp [mapRow]

structure MkRel (w : World) (n k : Nat) (W : World) : Prop where
  row : Filled w 29 (mapRow w.heap.size n) k W
  size : W.heap.size = w.heap.size + 1 + k
  clk : ∀ i, i < k → ClockOn W (fun g => g = w.heap.size + 1 + i) (w.heap.size + 1 + i) 0 zeroC

theorem MkRel.step {w W : World} {n k : Nat} (h : MkRel w n k W) (hk : k < n) : MkRel w n (k + 1) ((W.alloc (.map #[] 0)).setCell ⟨w.heap.size, k, none⟩ (.map (some W.heap.size))) := by
  have hfar : ∀ g, g < W.heap.size → g ≠ w.heap.size → ((W.alloc (.map #[] 0)).setCell ⟨w.heap.size, k, none⟩ (.map (some W.heap.size))).heap[g]? = W.heap[g]? := fun g hg hne => by
    rw [Below.heap_setCell _ _ _ _ (by simpa using hne)]; exact heap_alloc_old W _ hg
  have hs := h.size
  refine ⟨?_, by simp [World.setCell]; omega, fun i hi => ?_⟩
  · have h1 : Filled w 29 (mapRow w.heap.size n) k (W.alloc (.map #[] 0)) := by
      obtain ⟨C, hC, h2⟩ := h.row.row
      exact ⟨⟨C, by rw [heap_alloc_old W _ (Array.getElem?_eq_some_iff.1 hC).1]; exact hC, h2⟩, h.row.gr.trans (World.grownBy_alloc W _ none)⟩
    have h2 := h1.step (by rw [mapRow_length]; exact hk)
    rw [mapRow_get] at h2
    rw [hs]; exact h2
  · by_cases e : i = k
    · subst e
      have := ClockOn.made W
      rw [hs] at this
      refine this.far fun g hg => ?_
      rw [Below.heap_setCell _ _ _ _ (by show g ≠ w.heap.size; omega)]
    · exact (h.clk i (by omega)).far fun g hg => hfar g (by omega) (by omega)

/-- In the middle of buildMany's second loop. -/
def ManyRel (w : World) (n : Nat) (ss : List ByteArray) (N : Nat) (W : World) : Prop :=
  ∃ O b A, Cks W w.heap.size n N O b A ∧ (∀ i g, i < n → O i g → w.heap.size ≤ g) ∧ (∀ i k, A i k ≠ (0, []) → ∃ s ∈ ss, k = s.data.toList) ∧ w.grownBy W none

theorem MkRel.many {w W : World} {n : Nat} (ss : List ByteArray) (h : MkRel w n n W) : ManyRel w n ss 0 W := by
  refine ⟨fun i g => g = w.heap.size + 1 + i, fun i => w.heap.size + 1 + i, fun _ => zeroC, ⟨fun i hi => ?_, by have := h.size; omega, h.clk, fun i j g _ _ h1 h2 => by omega, fun i g _ hg => by omega⟩, fun i g _ hg => by omega, fun i k hk => absurd rfl hk, h.row.gr⟩
  obtain ⟨C, hC, hs, ht⟩ := h.row.row
  rw [cell_of_row _ _ _ _ _ _ hC]
  rw [mapRow_length] at hs
  have h1 : C.toList = mapRow w.heap.size n := by
    have e1 : C.toList.take n = C.toList := List.take_of_length_le (by simp; omega)
    have e2 : (mapRow w.heap.size n).take n = mapRow w.heap.size n := List.take_of_length_le (by rw [mapRow_length]; exact Nat.le_refl _)
    rw [e1, e2] at ht; exact ht
  have h2 : C[i]? = (mapRow w.heap.size n)[i]? := by rw [← h1]; simp
  rw [h2, List.getElem?_eq_getElem (by rw [mapRow_length]; exact hi), mapRow_get]

theorem ManyRel.step {w W W' : World} {n N : Nat} {ss : List ByteArray} {ci : Nat} {s : ByteArray} {c : Int} {O : Nat → Nat → Prop} {b : Nat → Nat} {A : Nat → Clk} {O' : Nat → Prop}
    (h : Cks W w.heap.size n N O b A) (hO : ∀ i g, i < n → O i g → w.heap.size ≤ g) (hA : ∀ i k, A i k ≠ (0, []) → ∃ s ∈ ss, k = s.data.toList) (hg : w.grownBy W none) (hi : ci < n) (hs : s ∈ ss)
    (hO' : ∀ g, O' g → O ci g ∨ W.heap.size ≤ g ∧ g < W'.heap.size) (hk : Kept (O ci) W W') (hc : ClockOn W' O' (b ci) (N + 1) (addC (A ci) s.data.toList c)) : ManyRel w n ss (N + 1) W' := by
  refine ⟨_, b, _, h.step hi hO' hk hc, fun i g h1 hg' => ?_, fun i k hk' => ?_, build_step (fun g hg' => hO ci g hi hg') hg hk⟩
  · by_cases e : i = ci
    · simp only [e, if_true] at hg'
      rcases hO' g hg' with h' | ⟨h', _⟩
      · exact hO ci g hi h'
      · have := hg.size; omega
    · simp only [e, if_false] at hg'
      exact hO i g h1 hg'
  · by_cases e : i = ci
    · simp only [e, if_true] at hk'
      by_cases e' : k = s.data.toList
      · exact ⟨s, hs, e'⟩
      · rw [addC_other _ _ _ _ e'] at hk'; exact hA ci k hk'
    · simp only [e, if_false] at hk'
      exact hA i k hk'

set_option maxHeartbeats 4000000 in
set_option maxRecDepth 100000 in
/-- buildMany. -/
theorem buildMany_any (w : World) (n : Nat) (v1 v2 v3 : Value) (xs : List Int) (ss : List ByteArray) (cts : List Int) (h1 : SliceAt w v1 (xs.map (Value.int .u16))) (h2 : StrsAt w v2 ss) (h3 : SliceAt w v3 (cts.map (Value.int .u64)))
    (hn : n < 1000000000) (hn1 : xs.length < 1000000000) (hn2 : ss.length < 1000000000) (hn3 : cts.length < 1000000000) (hx : ∀ c ∈ xs, 0 ≤ c ∧ c < 65536) (hc : ∀ c ∈ cts, c < 18446744073709551616) :
    Calls Try.prog 20 #[.int .i64 n, v1, v2, v3] w fun e w' => e = .returned (.slice (some ⟨w.heap.size, 0, none⟩) n n) ∧ ∃ N, N ≤ cts.length ∧ ManyRel w n ss N w' := by
  obtain ⟨a1, c1, hv1⟩ := h1.form
  obtain ⟨a2, c2, hv2⟩ := h2.1.form
  obtain ⟨a3, c3, hv3⟩ := h3.form
  rw [List.length_map] at hv1 hv2 hv3
  subst hv1 hv2 hv3
  have H1 : Hid (SliceAt w (.slice a1 xs.length c1) (xs.map (Value.int .u16)) ∧ StrsAt w (.slice a2 ss.length c2) ss ∧ SliceAt w (.slice a3 cts.length c3) (cts.map (Value.int .u64)) ∧ (∀ c ∈ xs, 0 ≤ c ∧ c < 65536) ∧ ∀ c ∈ cts, c < 18446744073709551616) := ⟨h1, h2, h3, hx, hc⟩
  clear h1 h2 h3 hx hc
  have hmm := @run_makeMap Try.prog
  obtain ⟨W1, hmk, hf0, hsz⟩ := make_row w 44 29 (.map none) 8 Try.underlying44 info29 (by omega) (mapRow w.heap.size n) (by rw [mapRow_length]; omega)
  rw [mapRow_length] at hmk
  have HF : Hid (MkRel w n 0 W1) := ⟨hf0, hsz, fun i hi => by omega⟩
  clear hf0 hsz
  go_enter Try.func20, Try.ntmps20
  go_wp2_with fail
  go_loopw [10] (fun s10 wr => ∃ k : Nat, s10 = .int .i64 k ∧ k ≤ n ∧ MkRel w n k wr) (fun s10 _ => n - (intOf s10).toNat)
  case atStart => exact ⟨0, rfl, Nat.zero_le _, HF.out⟩
  case round =>
    obtain ⟨k, rfl, hk, hR⟩ := hrel
    by_cases hlt : k < n
    · have HS : Hid (MkRel w n (k + 1) ((wr.alloc (.map #[] 0)).setCell ⟨w.heap.size, k, none⟩ (.map (some wr.heap.size)))) := hR.step hlt
      obtain ⟨C, hC, hCs, _⟩ := hR.row.row
      have hC' : (wr.alloc (.map #[] 0)).heap[w.heap.size]? = some (.cells C 29 (0, 0)) := by rw [heap_alloc_old wr _ (Array.getElem?_eq_some_iff.1 hC).1]; exact hC
      rw [mapRow_length] at hCs
      have hu : (wr.alloc (.map #[] 0)).cell? ⟨w.heap.size, k, none⟩ = some C[k] := by rw [cell_of_row _ _ _ _ _ _ hC']; exact Array.getElem?_eq_getElem (by omega)
      have hfz : (wr.alloc (.map #[] 0)).frozen? ⟨w.heap.size, k, none⟩ = false := frozen_row hC' k
      generalize C[k] = u at hu
      have p1 : (k : Int) < (n : Int) := by omega
      clear hC hC' hCs hR
      go_wp2_with fail
      exact ⟨⟨k + 1, by go_num, by omega, HS.out⟩, by simp [intOf]; omega⟩
    · have hke : k = n := by omega
      subst hke
      have HM : Hid (ManyRel w k ss 0 wr) := hR.many ss
      clear hR HF hk hlt hmk hmm
      by_cases hz : k = 0
      · subst hz
        go_wp2_with fail
        go_ret
        exact ⟨rfl, 0, Nat.zero_le _, HM.out⟩
      have hd : ((k : Int) == 0) = false := by simp; omega
      have hd2 : ¬ (k : Int) = 0 := by omega
      go_wp2_with fail
      refine (minInt_any _ _ _).mono ?_
      rintro e w' ⟨rfl, rfl⟩
      go_wp2_with fail
      refine (minInt_any _ _ _).mono ?_
      rintro e w' ⟨rfl, rfl⟩
      obtain ⟨m, hm, m1, m2, m3⟩ : ∃ m : Nat, minI (xs.length : Int) (minI (ss.length : Int) (cts.length : Int)) = m ∧ m ≤ xs.length ∧ m ≤ ss.length ∧ m ≤ cts.length := by
        refine ⟨min xs.length (min ss.length cts.length), ?_, by omega, by omega, by omega⟩
        unfold minI
        split <;> split <;> omega
      rw [hm]
      clear hm
      go_wp2_with fail
      go_loopw [12] (fun s12 wr => ∃ j : Nat, s12 = .int .i64 j ∧ j ≤ m ∧ ManyRel w k ss j wr) (fun s12 _ => m - (intOf s12).toNat)
      case atStart => exact ⟨0, rfl, Nat.zero_le _, HM.out⟩
      case round =>
        obtain ⟨j, rfl, hj, hR⟩ := hrel
        by_cases hlt : j < m
        · obtain ⟨b0, o0, rfl, hb0, hcl0⟩ := H1.out.1.cellInt j (by omega)
          obtain ⟨b1, o1, s, rfl, hb1, hcl1, hss, hsz⟩ := H1.out.2.1.cell j (by omega)
          obtain ⟨b2, o2, rfl, hb2, hcl2⟩ := H1.out.2.2.1.cellInt j (by omega)
          have hxb := H1.out.2.2.2.1 xs[j] (List.getElem_mem (by omega))
          have hcb := H1.out.2.2.2.2 cts[j] (List.getElem_mem (by omega))
          have hsm : s ∈ ss := by rw [hss]; exact List.getElem_mem (by omega)
          obtain ⟨O, b, A, hck, hO, hA, hgr⟩ := hR
          have k0 : wr.cell? ⟨b0, o0 + j, none⟩ = some (.int .u16 xs[j]) := by rw [hgr.cell_far ⟨b0, o0 + j, none⟩ hb0 (by simp)]; exact hcl0
          have k1 : wr.cell? ⟨b1, o1 + j, none⟩ = some (.string s) := by rw [hgr.cell_far ⟨b1, o1 + j, none⟩ hb1 (by simp)]; exact hcl1
          have k2 : wr.cell? ⟨b2, o2 + j, none⟩ = some (.int .u64 cts[j]) := by rw [hgr.cell_far ⟨b2, o2 + j, none⟩ hb2 (by simp)]; exact hcl2
          generalize cts[j] = c at k2 hcb
          generalize xs[j] = x at k0 hxb
          obtain ⟨ci, hci, hcil⟩ : ∃ ci : Nat, Int.tmod x (k : Int) = ci ∧ ci < k := by
            have e : Int.tmod x (k : Int) = x % (k : Int) := Int.tmod_eq_emod_of_nonneg hxb.1
            have h1 := Int.emod_nonneg x hd2
            have h2 := Int.emod_lt_of_pos x (by omega : (0 : Int) < k)
            exact ⟨(x % (k : Int)).toNat, by rw [e]; omega, by omega⟩
          have k3 : wr.cell? ⟨w.heap.size, ci, none⟩ = some (.map (some (b ci))) := hck.cell ci hcil
          have HR : Hid (Cks wr w.heap.size k j O b A ∧ (∀ i g, i < k → O i g → w.heap.size ≤ g) ∧ (∀ i k, A i k ≠ (0, []) → ∃ s ∈ ss, k = s.data.toList) ∧ w.grownBy wr none) := ⟨hck, hO, hA, hgr⟩
          have p0 : (j : Int) < (xs.length : Int) := by omega
          have p1 : (j : Int) < (ss.length : Int) := by omega
          have p2 : (j : Int) < (cts.length : Int) := by omega
          have p3 : (j : Int) < (m : Int) := by omega
          have p4 : (ci : Int) < (k : Int) := by omega
          have p5 : j < 1000000000000 := by omega
          have p6 : w.heap.size ≤ wr.heap.size := hgr.size
          have p7 : 0 ≤ x := hxb.1
          have p8 : x < 65536 := hxb.2
          clear hcl0 hcl1 hcl2 hss hck hO hA hgr hxb
          go_wp2_with fail
          go_region_held3 (fun w' => w'.cell? ⟨b1, o1 + j, none⟩ = some (.string s) ∧ w'.cell? ⟨b2, o2 + j, none⟩ = some (.int .u64 c) ∧ w'.cell? ⟨w.heap.size, ci, none⟩ = some (.map (some (b ci)))) (first | go_keep | exact ⟨(World.cell?_of_block (a := ⟨b1, o1 + j, none⟩) (hk2.block b1 (by show b1 < wr.heap.size; omega) (fun h => by have := HR.out.2.1 ci _ hcil h; omega))).trans k1, (World.cell?_of_block (a := ⟨b2, o2 + j, none⟩) (hk2.block b2 (by show b2 < wr.heap.size; omega) (fun h => by have := HR.out.2.1 ci _ hcil h; omega))).trans k2, (World.cell?_of_block (a := ⟨w.heap.size, ci, none⟩) (hk2.block w.heap.size HR.out.1.rlt (fun h => HR.out.1.low ci _ hcil h rfl))).trans k3⟩)
            ((go_at_call 13; refine (add_any (O := O ci) (b := b ci) (N := j) (A := A ci) (by exact (HR.out.1.clk ci hcil).far (fun g _ => rfl)) p5 s hsz c hcb).mono ?_; rintro e w2 ⟨rfl, O2, hO2, hk2, hclk2⟩))
          go_wp2
          refine ⟨⟨j + 1, by go_num, by omega, ?_⟩, by simp [intOf]; omega⟩
          exact ManyRel.step (W := wr) HR.out.1 HR.out.2.1 HR.out.2.2.1 HR.out.2.2.2 hcil hsm hO2 ⟨hk2.os, hk2.tape, hk2.output, hk2.size, hk2.block⟩ hclk2
        · have HE : Hid (ManyRel w k ss j wr) := hR
          clear hR
          go_wp2_with fail
          go_ret
          exact ⟨rfl, j, by omega, HE.out⟩
end Go.Proofs.Qxb6000536a.ck
