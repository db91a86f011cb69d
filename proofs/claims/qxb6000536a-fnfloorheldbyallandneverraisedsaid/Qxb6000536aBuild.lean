import Derived.Test.Qxb6000536aBytes
import Derived.Carry
namespace Go.Proofs.Qxb6000536a.ck
open Go.RowKit Go.Lib Go.Maps
set_option linter.unusedVariables false

def addD (A : Clk) (d : Key × Int) : Clk := addC A d.1 d.2
/-- The clock that dots build. -/
def clkOf (dots : List (Key × Int)) : Clk := dots.foldl addD zeroC
def dotsOf (ss : List ByteArray) (cts : List Int) : List (Key × Int) := (ss.map fun s => s.data.toList).zip cts
theorem dotsOf_length (ss : List ByteArray) (cts : List Int) : (dotsOf ss cts).length = min ss.length cts.length := by simp [dotsOf]
theorem clkOf_snoc (dots : List (Key × Int)) (d : Key × Int) : clkOf (dots ++ [d]) = addD (clkOf dots) d := by simp [clkOf]
theorem dotsOf_take (ss : List ByteArray) (cts : List Int) (j : Nat) (h1 : j < ss.length) (h2 : j < cts.length) : (dotsOf ss cts).take (j + 1) = (dotsOf ss cts).take j ++ [(ss[j].data.toList, cts[j])] := by
  rw [List.take_succ_eq_append_getElem (by rw [dotsOf_length]; omega)]
  simp [dotsOf]

/-- A slice of numbers of one kind. -/
theorem SliceAt.cellInt {W : World} {q : IntKind} {a : Option Addr} {n c : Nat} {xs : List Int} (h : SliceAt W (.slice a n c) (xs.map (Value.int q))) (k : Nat) (hk : k < xs.length) :
    ∃ b off, a = some ⟨b, off, none⟩ ∧ b < W.heap.size ∧ W.cell? ⟨b, off + k, none⟩ = some (.int q xs[k]) := by
  obtain ⟨a', c', hv, hc⟩ := h
  simp only [Value.slice.injEq] at hv
  obtain ⟨rfl, _, rfl⟩ := hv
  obtain ⟨b, off, hp, hb, hc⟩ := hc (by intro e; simp at e; subst e; simp at hk)
  exact ⟨b, off, hp, hb, by have := hc k (by simpa using hk); rw [this]; simp⟩

/-- In the middle of buildOne. -/
def BuildRel (w : World) (dots : List (Key × Int)) (j : Nat) (W : World) : Prop :=
  ∃ O, (∀ g, O g → w.heap.size ≤ g) ∧ ClockOn W O w.heap.size j (clkOf (dots.take j)) ∧ w.grownBy W none

theorem BuildRel.start (w : World) (dots : List (Key × Int)) : BuildRel w dots 0 (w.alloc (.map #[] 0)) :=
  ⟨_, fun g hg => by rw [hg]; exact Nat.le_refl _, ClockOn.made w, World.grownBy_alloc w _ none⟩

/-- What is behind an Add, seen from the start. -/
theorem build_step {w W W' : World} {O : Nat → Prop} (hO : ∀ g, O g → w.heap.size ≤ g) (hg : w.grownBy W none) (hk : Kept O W W') : w.grownBy W' none :=
  ⟨hk.os.trans hg.os, hk.tape.trans hg.tape, hk.output.trans hg.output, Nat.le_trans hg.size hk.size, fun k hk' hn => by
    rw [hk.block k (by have := hg.size; omega) (fun c => by have := hO k c; omega)]; exact hg.block k hk' hn⟩

set_option maxHeartbeats 4000000 in
set_option maxRecDepth 100000 in
/-- buildOne. -/
theorem buildOne_any (w : World) (v1 v2 : Value) (ss : List ByteArray) (cts : List Int) (h1 : StrsAt w v1 ss) (h2 : SliceAt w v2 (cts.map (Value.int .u64))) (hn1 : ss.length < 1000000000) (hn2 : cts.length < 1000000000) (hc : ∀ c ∈ cts, c < 18446744073709551616) :
    Calls Try.prog 12 #[v1, v2] w fun e w' => e = .returned (.map (some w.heap.size)) ∧ BuildRel w (dotsOf ss cts) (dotsOf ss cts).length w' := by
  obtain ⟨a1, c1, hv1⟩ := h1.1.form
  obtain ⟨a2, c2, hv2⟩ := h2.form
  rw [List.length_map] at hv1 hv2
  subst hv1 hv2
  have H1 : Hid (StrsAt w (.slice a1 ss.length c1) ss ∧ SliceAt w (.slice a2 cts.length c2) (cts.map (Value.int .u64)) ∧ ∀ c ∈ cts, c < 18446744073709551616) := ⟨h1, h2, hc⟩
  clear h1 h2 hc
  have hmm := @run_makeMap Try.prog
  obtain ⟨m, hm⟩ : ∃ m : Nat, minI (ss.length : Int) (cts.length : Int) = m ∧ m = (dotsOf ss cts).length := by
    rw [dotsOf_length]
    by_cases h : (ss.length : Int) < cts.length
    · exact ⟨ss.length, by simp [minI, h], by omega⟩
    · exact ⟨cts.length, by simp [minI, h], by omega⟩
  obtain ⟨hm, hm2⟩ := hm
  have HM : Hid (m = (dotsOf ss cts).length ∧ m ≤ ss.length ∧ m ≤ cts.length) := ⟨hm2, by rw [hm2, dotsOf_length]; omega, by rw [hm2, dotsOf_length]; omega⟩
  clear hm2
  go_enter Try.func12, Try.ntmps12
  go_wp2_with fail
  refine (minInt_any _ _ _).mono ?_
  rintro e w' ⟨rfl, rfl⟩
  rw [hm]
  clear hm
  go_wp2_with fail
  go_loopw [7] (fun s7 wr => ∃ j : Nat, s7 = .int .i64 j ∧ j ≤ m ∧ BuildRel w (dotsOf ss cts) j wr) (fun s7 _ => m - (intOf s7).toNat)
  case atStart => exact ⟨0, rfl, Nat.zero_le _, BuildRel.start w _⟩
  case round =>
    obtain ⟨j, rfl, hj, hR⟩ := hrel
    have hmb : m < 1000000000 := by have := HM.out; omega
    by_cases hlt : j < m
    · have hM := HM.out
      obtain ⟨b1, o1, s, rfl, hb1, hcl1, hss, hsz⟩ := H1.out.1.cell j (by omega)
      obtain ⟨b2, o2, rfl, hb2, hcl2⟩ := H1.out.2.1.cellInt j (by omega)
      have hcb := H1.out.2.2 cts[j] (List.getElem_mem (by omega))
      obtain ⟨O, hO, hclk, hgr⟩ := hR
      have k1 : wr.cell? ⟨b1, o1 + j, none⟩ = some (.string s) := by rw [hgr.cell_far ⟨b1, o1 + j, none⟩ hb1 (by simp)]; exact hcl1
      have k2 : wr.cell? ⟨b2, o2 + j, none⟩ = some (.int .u64 cts[j]) := by rw [hgr.cell_far ⟨b2, o2 + j, none⟩ hb2 (by simp)]; exact hcl2
      have HD : Hid ((dotsOf ss cts).take (j + 1) = (dotsOf ss cts).take j ++ [(s.data.toList, cts[j])]) := by rw [hss]; exact dotsOf_take ss cts j (by omega) (by omega)
      have HR : Hid (ClockOn wr O w.heap.size j (clkOf ((dotsOf ss cts).take j)) ∧ w.grownBy wr none) := ⟨hclk, hgr⟩
      generalize cts[j] = c at k2 HD hcb
      have p1 : (j : Int) < (ss.length : Int) := by omega
      have p2 : (j : Int) < (cts.length : Int) := by omega
      have p3 : (j : Int) < (m : Int) := by omega
      have p4 : (0 : Int) ≤ (j : Int) := by omega
      have p5 : j < 1000000000000 := by omega
      have p6 : w.heap.size ≤ wr.heap.size := HR.out.2.size
      clear hcl1 hcl2 hss hclk hgr hM
      go_wp2_with fail
      go_region_held3 (fun w' => w'.cell? ⟨b1, o1 + j, none⟩ = some (.string s) ∧ w'.cell? ⟨b2, o2 + j, none⟩ = some (.int .u64 c)) (first | go_keep | exact ⟨(World.cell?_of_block (a := ⟨b1, o1 + j, none⟩) (hk2.block b1 (by show b1 < wr.heap.size; omega) (fun h => by have := hO _ h; omega))).trans k1, (World.cell?_of_block (a := ⟨b2, o2 + j, none⟩) (hk2.block b2 (by show b2 < wr.heap.size; omega) (fun h => by have := hO _ h; omega))).trans k2⟩)
        ((go_at_call 13; refine (add_any (O := O) (b := w.heap.size) (N := j) (A := clkOf ((dotsOf ss cts).take j)) (by exact HR.out.1.far (fun g _ => rfl)) p5 s hsz c hcb).mono ?_; rintro e w2 ⟨rfl, O2, hO2, hk2, hclk2⟩))
      go_wp2
      refine ⟨⟨j + 1, by go_num, by omega, O2, fun g hg => ?_, ?_, ?_⟩, by simp [intOf]; omega⟩
      · rcases hO2 g hg with h | ⟨h, _⟩
        · exact hO g h
        · have h' : wr.heap.size ≤ g := h
          omega
      · rw [HD.out, clkOf_snoc]; exact hclk2
      · exact build_step (W := wr) hO HR.out.2 ⟨hk2.os, hk2.tape, hk2.output, hk2.size, hk2.block⟩
    · have hje : j = m := by omega
      have HE : Hid (BuildRel w (dotsOf ss cts) (dotsOf ss cts).length wr) := by
        show BuildRel _ _ _ _
        rw [← HM.out.1, ← hje]; exact hR
      clear hje hR
      go_wp2_with fail
      go_ret
      exact ⟨rfl, HE.out⟩
end Go.Proofs.Qxb6000536a.ck
