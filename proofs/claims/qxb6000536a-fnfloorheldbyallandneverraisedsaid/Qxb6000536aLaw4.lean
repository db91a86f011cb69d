import Derived.Test.Qxb6000536aBuild
import Derived.Test.Qxb6000536aZz
import Derived.Deep.DeepCutAuto
namespace Go.Proofs.Qxb6000536a.ck
open Go.RowKit Go.Lib Go.Maps
set_option linter.unusedVariables false

/-! ### The plain law -/
theorem fold_canon : ∀ (dots : List (Key × Int)) (A : Clk), (∀ k, Canon (A k)) → (∀ d ∈ dots, d.2 < 18446744073709551616) → ∀ k, Canon ((dots.foldl addD A) k)
  | [], A, hA, _, k => hA k
  | d :: r, A, hA, hd, k => by
    rw [List.foldl_cons]
    refine fold_canon r _ (fun k' => ?_) (fun d' h => hd d' (by simp [h])) k
    unfold addD addC
    split
    · exact (addS_spec _ _ (hA _) (hd d (by simp))).1
    · exact hA k'
/-- What a clock holds it goes on holding. -/
theorem fold_has : ∀ (dots : List (Key × Int)) (A : Clk), (∀ k, Canon (A k)) → (∀ d ∈ dots, d.2 < 18446744073709551616) → ∀ k y, Has (A k) y → Has ((dots.foldl addD A) k) y
  | [], A, _, _, k, y, h => h
  | d :: r, A, hA, hd, k, y, h => by
    rw [List.foldl_cons]
    refine fold_has r _ (fun k' => ?_) (fun d' h => hd d' (by simp [h])) k y ?_
    · unfold addD addC
      split
      · exact (addS_spec _ _ (hA _) (hd d (by simp))).1
      · exact hA k'
    · unfold addD addC
      split
      · rename_i e
        rw [e] at h
        exact (addS_has _ _ (hA _) (hd d (by simp)) y).2 (.inl h)
      · exact h
theorem grow_holds (A : Clk) (dots : List (Key × Int)) (hA : ∀ k, Canon (A k)) (hd : ∀ d ∈ dots, d.2 < 18446744073709551616) (k : Key) : hasAllB ((dots.foldl addD A) k) (A k) = true :=
  (hasAllB_iff _ _ (fold_canon dots A hA hd k)).2 fun y h => fold_has dots A hA hd k y h

/-! ### Writes added one behind the other to a clock that is there -/
def Adding (W0 : World) (O0 : Nat → Prop) (b N : Nat) (A0 : Clk) (dots : List (Key × Int)) (j : Nat) (wr : World) : Prop :=
  ∃ O, ClockOn wr O b (N + j) ((dots.take j).foldl addD A0) ∧ (∀ g, O g → O0 g ∨ W0.heap.size ≤ g) ∧ Kept O0 W0 wr
theorem Adding.start {W0 : World} {O0 : Nat → Prop} {b N : Nat} {A0 : Clk} (dots : List (Key × Int)) (h : ClockOn W0 O0 b N A0) : Adding W0 O0 b N A0 dots 0 W0 :=
  ⟨O0, h, fun g hg => .inl hg, Kept.refl _ _⟩
theorem Adding.step {W0 W W' : World} {O0 O O2 : Nat → Prop} {b N : Nat} {A0 : Clk} {dots : List (Key × Int)} {j : Nat} {d : Key × Int} (hd : dots.take (j + 1) = dots.take j ++ [d])
    (hO : ∀ g, O g → O0 g ∨ W0.heap.size ≤ g) (hk : Kept O0 W0 W) (hO2 : ∀ g, O2 g → O g ∨ W.heap.size ≤ g ∧ g < W'.heap.size) (hk2 : Kept O W W') (hclk : ClockOn W' O2 b (N + j + 1) (addD ((dots.take j).foldl addD A0) d)) : Adding W0 O0 b N A0 dots (j + 1) W' := by
  refine ⟨O2, by rw [hd, List.foldl_append]; exact hclk, fun g hg => ?_, hk.trans hk2 fun k hlt h => ?_⟩
  · rcases hO2 g hg with h | ⟨h, _⟩
    · exact hO g h
    · have := hk.size; exact .inr (by omega)
  · rcases hO k h with h' | h'
    · exact h'
    · omega

theorem SliceAt.far {W W' : World} {v : Value} {vs : List Value} (h : SliceAt W v vs) {O : Nat → Prop} (hk : Kept O W W') (hO : ∀ g, g < W.heap.size → ¬ O g) : SliceAt W' v vs :=
  h.kept fun k hk' => hk.block k hk' (hO k hk')
theorem SliceAt.grown {W W' : World} {v : Value} {vs : List Value} (h : SliceAt W v vs) (hg : W.grownBy W' none) : SliceAt W' v vs :=
  h.kept fun k hk' => hg.block k hk' (by simp)
theorem StrsAt.grown {W W' : World} {v : Value} {ss : List ByteArray} (h : StrsAt W v ss) (hg : W.grownBy W' none) : StrsAt W' v ss := ⟨h.1.grown hg, h.2⟩

/-- The end of a walk that only makes memory: true came back. -/
def TrueG (w : World) (e : Ending) (w' : World) : Prop := e = .returned (.bool true) ∧ w.grownBy w' none
theorem grown_refl (w : World) : w.grownBy w none := ⟨rfl, rfl, rfl, Nat.le_refl _, fun _ _ _ => rfl⟩

theorem keep_cell {X y : World} (hg : X.grownBy y none) {a : Addr} {v : Value} (h : X.cell? a = some v) : y.cell? a = some v := by
  rw [hg.cell_far a (World.block_lt_of_cell? X a h) (by simp)]; exact h
theorem grown_drew (w : World) : w.grownBy w.drew none := ⟨rfl, rfl, rfl, Nat.le_refl _, fun _ _ _ => rfl⟩

theorem snap_cells {x6 y : World} {c0 c1 : Value} (hg : (x6.drew.alloc (.cells #[c0, c1] 36)).grownBy y none) :
    y.heap[x6.heap.size]? = some (.cells #[c0, c1] 36 (0, 0)) ∧ y.cell? ⟨x6.heap.size, 0, none⟩ = some c0 ∧ y.cell? ⟨x6.heap.size, 1, none⟩ = some c1 ∧ y.frozen? ⟨x6.heap.size, 0, none⟩ = false ∧ y.frozen? ⟨x6.heap.size, 1, none⟩ = false := by
  have h : y.heap[x6.heap.size]? = some (.cells #[c0, c1] 36 (0, 0)) := by
    rw [hg.block x6.heap.size (by simp) (by simp)]
    exact heap_alloc_new x6.drew _
  exact ⟨h, by rw [cell_of_row _ _ _ _ _ _ h]; rfl, by rw [cell_of_row _ _ _ _ _ _ h]; rfl, frozen_row h 0, frozen_row h 1⟩

theorem ClockOn.lt {W : World} {O : Nat → Prop} {b N : Nat} {A : Clk} (h : ClockOn W O b N A) : ∀ g, O g → g < W.heap.size := by
  obtain ⟨D, sv, h⟩ := h; exact h.lt
theorem own_holds {S : Sn} (hS : Canon S) : hasAllB S S = true := (hasAllB_iff S S hS).2 fun _ h => h
theorem minI_dots (ss : List ByteArray) (cts : List Int) : minI (ss.length : Int) (cts.length : Int) = ((dotsOf ss cts).length : Int) := by
  rw [dotsOf_length]; unfold minI; split <;> omega
theorem dotsOf_top (ss : List ByteArray) (cts : List Int) (hc : ∀ c ∈ cts, c < 18446744073709551616) : ∀ d ∈ dotsOf ss cts, d.2 < 18446744073709551616 := fun d hd => hc _ (List.of_mem_zip hd).2

/-- The snapshot of an entry: a box of its own, a row of its own. -/
def SnapAt (x5 : World) (S : Sn) (p : Nat) (v : Value) (W : World) : Prop :=
  x5.heap.size ≤ p ∧ W.heap[p]? = some (.cells #[.int .u64 S.1, v] 36 (0, 0)) ∧ W.ownsRow x5.heap.size 32 1 v S.2.length (U S.2) ∧ x5.grownBy W none

theorem own_base {w : World} {base base' : Nat} {e : TypeId} {sz : Nat} {v : Value} {n : Nat} {xs : List Value} (h : w.ownsRow base e sz v n xs) (hb : base' ≤ base) : w.ownsRow base' e sz v n xs := by
  refine ⟨h.1, ?_⟩
  rcases h.2 with h2 | ⟨g, cap, cur, rfl, hb', r⟩
  · exact .inl h2
  · exact .inr ⟨g, cap, cur, rfl, by omega, r⟩
theorem snap_after {x5 x6 y : World} {S : Sn} {v : Value} (h56 : x5.grownBy x6 none) (hlt : x5.heap.size < x6.heap.size) (g6 : x6.drew.grownBy y none) (o6 : y.ownsRow x6.drew.heap.size 32 1 v S.2.length (U S.2)) :
    SnapAt x5 S y.heap.size v (y.alloc (.cells #[.int .u64 S.1, v] 36)) := by
  have h6 : x6.heap.size ≤ y.heap.size := g6.size
  refine ⟨by omega, heap_alloc_new y _, ?_, ?_⟩
  · exact own_base (base := x6.heap.size) (o6.alloc _) (by omega)
  · exact ((h56.trans (grown_drew x6)).trans g6).trans (World.grownBy_alloc _ _ _)
theorem snap_before {x5 x6 y : World} {S : Sn} {a6 : Option Addr} {n c6 : Nat} {z0 z1 : Value} (h56 : x5.grownBy x6 none) (hlt : x5.heap.size < x6.heap.size) (g6 : (x6.drew.alloc (.cells #[z0, z1] 36)).grownBy y none)
    (o6 : y.ownsRow (x6.drew.alloc (.cells #[z0, z1] 36)).heap.size 32 1 (.slice a6 n c6) S.2.length (U S.2)) :
    SnapAt x5 S x6.heap.size (.slice a6 n c6) ((y.setCell ⟨x6.heap.size, 0, none⟩ (.int .u64 S.1)).setCell ⟨x6.heap.size, 1, none⟩ (.slice a6 n c6)) := by
  obtain ⟨e4, _⟩ := snap_cells g6
  have hsz : (x6.drew.alloc (.cells #[z0, z1] 36)).heap.size = x6.heap.size + 1 := by simp
  rw [hsz] at o6
  refine ⟨by omega, ?_, ?_, ?_⟩
  · simp [World.setCell, Array.getElem?_modify, e4]
  · refine own_base (base := x6.heap.size + 1) (own_far o6 fun g hg => ?_) (by omega)
    have := (o6.lt g hg).1
    rw [Below.heap_setCell _ _ _ _ (by show g ≠ x6.heap.size; omega), Below.heap_setCell _ _ _ _ (by show g ≠ x6.heap.size; omega)]
  · have hg : x5.grownBy y none := ((h56.trans (grown_drew x6)).trans (World.grownBy_alloc _ _ none)).trans g6
    exact grown_setCell (grown_setCell hg (by show x5.heap.size ≤ x6.heap.size; omega) _) (by show x5.heap.size ≤ x6.heap.size; omega) _

set_option maxHeartbeats 4000000 in
set_option maxRecDepth 100000 in
theorem law4 (w : World) (node : ByteArray) (hnode : node.size ≤ maxLen) (v1 v2 v3 v4 : Value) (ss ms : List ByteArray) (cts mts : List Int)
    (h1 : StrsAt w v1 ss) (h2 : SliceAt w v2 (cts.map (Value.int .u64))) (h3 : StrsAt w v3 ms) (h4 : SliceAt w v4 (mts.map (Value.int .u64)))
    (n1 : ss.length ≤ 9223372036854775807) (n2 : cts.length ≤ 9223372036854775807) (n3 : ms.length ≤ 9223372036854775807) (n4 : mts.length ≤ 9223372036854775807)
    (hc : ∀ c ∈ cts, c < 18446744073709551616) (hm : ∀ c ∈ mts, c < 18446744073709551616) :
    Calls Try.prog 4 #[.string node, v1, v2, v3, v4] w (TrueG w) := by
  have Z := zz16 w node hnode v1 ss h1 n1 v2 (cts.map (Value.int .u64)) h2 (by simpa using n2) v3 ms h3 n3 v4 (mts.map (Value.int .u64)) h4 (by simpa using n4)
  have HZ : Hid (Calls Try.prog 16 #[.string node, v1, v2, v3, v4] w (SomeBool w)) := Z
  clear Z
  obtain ⟨a1, c1, hv1⟩ := h1.1.form
  obtain ⟨a2, c2, hv2⟩ := h2.form
  obtain ⟨a3, c3, hv3⟩ := h3.1.form
  obtain ⟨a4, c4, hv4⟩ := h4.form
  rw [List.length_map] at hv1 hv2 hv3 hv4
  subst hv1 hv2 hv3 hv4
  have HA : Hid (StrsAt w (.slice a1 ss.length c1) ss ∧ SliceAt w (.slice a2 cts.length c2) (cts.map (Value.int .u64)) ∧ StrsAt w (.slice a3 ms.length c3) ms ∧ SliceAt w (.slice a4 mts.length c4) (mts.map (Value.int .u64)) ∧ node.size ≤ maxLen ∧ (∀ c ∈ cts, c < 18446744073709551616) ∧ (∀ c ∈ mts, c < 18446744073709551616)) := ⟨h1, h2, h3, h4, hnode, hc, hm⟩
  clear h1 h2 h3 h4 hc hm
  unfold maxLen at hnode
  go_enter Try.func4, Try.ntmps4
  go_wp2_with fail
  refine HZ.out.mono ?_
  rintro e w' ⟨r, rfl, rfl⟩
  cases r
  · go_wp2_with fail
    go_ret
    exact ⟨rfl, grown_refl _⟩
  clear HZ
  by_cases l0 : 1048576 < (node.size : Int)
  · go_wp2_with fail
    go_ret
    exact ⟨rfl, grown_refl _⟩
  by_cases l1 : 65536 < (ss.length : Int)
  · go_wp2_with fail
    go_ret
    exact ⟨rfl, grown_refl _⟩
  by_cases l2 : 65536 < (cts.length : Int)
  · go_wp2_with fail
    go_ret
    exact ⟨rfl, grown_refl _⟩
  by_cases l3 : 65536 < (ms.length : Int)
  · go_wp2_with fail
    go_ret
    exact ⟨rfl, grown_refl _⟩
  by_cases l4 : 65536 < (mts.length : Int)
  · go_wp2_with fail
    go_ret
    exact ⟨rfl, grown_refl _⟩
  have d0 : decide (1048576 < (node.size : Int)) = false := decide_eq_false l0
  have d1 : decide (65536 < (ss.length : Int)) = false := decide_eq_false l1
  have d2 : decide (65536 < (cts.length : Int)) = false := decide_eq_false l2
  have d3 : decide (65536 < (ms.length : Int)) = false := decide_eq_false l3
  have d4 : decide (65536 < (mts.length : Int)) = false := decide_eq_false l4
  clear n1 n2 n3 n4
  go_wp2_with fail
  refine (strBytes_any _ _ ss (by exact HA.out.1) (by omega)).mono ?_
  rintro e w2 ⟨t1, rfl, t10, t11, rfl⟩
  go_wp2_with fail
  refine (strBytes_any _ _ ms (by exact HA.out.2.2.1) (by omega)).mono ?_
  rintro e w3 ⟨t2, rfl, t20, t21, rfl⟩
  by_cases ls : 1048576 < (node.size : Int) + t1 + 16 * (ss.length : Int) + 8 * (cts.length : Int) + t2 + 16 * (ms.length : Int) + 8 * (mts.length : Int)
  · go_wp2_with fail
    go_ret
    exact ⟨rfl, grown_refl _⟩
  have d5 : decide (1048576 < (node.size : Int) + t1 + 16 * (ss.length : Int) + 8 * (cts.length : Int) + t2 + 16 * (ms.length : Int) + 8 * (mts.length : Int)) = false := decide_eq_false ls
  clear hnode
  -- the four clones
  go_wp2_with fail
  refine (cloneStrs_any _ _ ss (by exact HA.out.1.1) (by omega)).mono ?_
  rintro e x1 ⟨u1, rfl, o1, g1⟩
  have HB : Hid (x1.ownsRow w3.heap.size 9 1 u1 ss.length (ss.map Value.string) ∧ w3.grownBy x1 none) := ⟨o1, g1⟩
  clear o1 g1
  go_wp2_with fail
  refine (cloneU64_any _ _ cts (by exact HA.out.2.1.grown HB.out.2) (by omega)).mono ?_
  rintro e x2 ⟨u2, rfl, o2, g2⟩
  have HC : Hid (x2.ownsRow x1.heap.size 32 1 u2 cts.length (cts.map (Value.int .u64)) ∧ x1.grownBy x2 none) := ⟨o2, g2⟩
  clear o2 g2
  go_wp2_with fail
  refine (cloneStrs_any _ _ ms (by exact (HA.out.2.2.1.1.grown HB.out.2).grown HC.out.2) (by omega)).mono ?_
  rintro e x3 ⟨u3, rfl, o3, g3⟩
  obtain ⟨b3, k3, hu3⟩ := (SliceAt.own o3).form
  rw [List.length_map] at hu3
  subst hu3
  have HD : Hid (x3.ownsRow x2.heap.size 9 1 (.slice b3 ms.length k3) ms.length (ms.map Value.string) ∧ x2.grownBy x3 none) := ⟨o3, g3⟩
  clear o3 g3
  go_wp2_with fail
  refine (cloneU64_any _ _ mts (by exact ((HA.out.2.2.2.1.grown HB.out.2).grown HC.out.2).grown HD.out.2) (by omega)).mono ?_
  rintro e x4 ⟨u4, rfl, o4, g4⟩
  obtain ⟨b4, k4, hu4⟩ := (SliceAt.own o4).form
  rw [List.length_map] at hu4
  subst hu4
  have HE : Hid (x4.ownsRow x3.heap.size 32 1 (.slice b4 mts.length k4) mts.length (mts.map (Value.int .u64)) ∧ x3.grownBy x4 none) := ⟨o4, g4⟩
  clear o4 g4
  have HS : Hid (StrsAt x4 u1 ss ∧ SliceAt x4 u2 (cts.map (Value.int .u64)) ∧ StrsAt x4 (.slice b3 ms.length k3) ms ∧ SliceAt x4 (.slice b4 mts.length k4) (mts.map (Value.int .u64)) ∧ w3.grownBy x4 none) :=
    ⟨⟨(((SliceAt.own HB.out.1).grown HC.out.2).grown HD.out.2).grown HE.out.2, HA.out.1.2⟩, ((SliceAt.own HC.out.1).grown HD.out.2).grown HE.out.2, ⟨(SliceAt.own HD.out.1).grown HE.out.2, HA.out.2.2.1.2⟩, SliceAt.own HE.out.1, ((HB.out.2.trans HC.out.2).trans HD.out.2).trans HE.out.2⟩
  clear HB HC HD HE
  -- the clock
  go_wp2_with fail
  refine (buildOne_any _ _ _ ss cts (by exact HS.out.1) (by exact HS.out.2.1) (by omega) (by omega) HA.out.2.2.2.2.2.1).mono ?_
  rintro e x5 ⟨rfl, O, hO, hclk, g5⟩
  rw [List.take_length] at hclk
  obtain ⟨N, hN, hNb⟩ : ∃ N, N = (dotsOf ss cts).length ∧ N < 1000000 := ⟨_, rfl, by rw [dotsOf_length]; omega⟩
  rw [← hN] at hclk
  clear hN
  obtain ⟨A, hA⟩ : ∃ A, A = clkOf (dotsOf ss cts) := ⟨_, rfl⟩
  rw [← hA] at hclk
  clear hA
  have HK : Hid (ClockOn x5 O x4.heap.size N A ∧ (∀ g, O g → x4.heap.size ≤ g) ∧ x4.grownBy x5 none) := ⟨hclk, hO, g5⟩
  obtain ⟨D, sv, hclk⟩ := hclk
  have hlk := hclk.look node HA.out.2.2.2.2.1
  have hrow := hclk.row node.data.toList
  have hcan := hclk.canon node.data.toList
  have hcnt := hclk.cnt node.data.toList
  obtain ⟨a, cap, hv, _⟩ := row_form hrow
  rw [hv] at hlk hrow
  obtain ⟨S, hS⟩ : ∃ S, S = A node.data.toList := ⟨_, rfl⟩
  rw [← hS] at hlk hrow hcan hcnt
  have HR : Hid (x5.ownsRow 0 32 1 (.slice a S.2.length cap) S.2.length (U S.2) ∧ S = A node.data.toList ∧ (∀ k, Canon (A k)) ∧ S.1 + S.2.length ≤ N) := ⟨hrow, hS, hclk.canon, hcnt⟩
  have hS0 : 0 ≤ S.1 := hcan.pos
  have hS1 : S.1 < 1000000 := by omega
  have hS2 : S.2.length < 1000000 := by omega
  clear hclk hO g5 hrow hcan hcnt hv hS
  go_wp2_with fail
  clear hlk
  obtain ⟨x6, hx6⟩ : ∃ x6, x6 = x5.alloc (.cells #[.int .u64 S.1, .slice a S.2.length cap] 36) := ⟨_, rfl⟩
  have q0 : x6.cell? ⟨x5.heap.size, 0, none⟩ = some (.int .u64 S.1) := by rw [hx6]; simp
  have q1 : x6.cell? ⟨x5.heap.size, 1, none⟩ = some (.slice a S.2.length cap) := by rw [hx6]; simp
  have q2 : x5.heap.size < x6.heap.size := by rw [hx6]; simp
  have HX : Hid (x5.grownBy x6 none ∧ SliceAt x6 (.slice a S.2.length cap) (S.2.map (Value.int .u64))) := by
    refine ⟨by rw [hx6]; exact World.grownBy_alloc _ _ _, ?_⟩
    rw [hx6]
    exact SliceAt.own (HR.out.1.alloc _)
  rw [← hx6]
  clear hx6
  go_cut [13] (fun s13 W => ∃ p v, s13 = .pointer (some ⟨p, 0, none⟩) ∧ SnapAt x5 S p v W)
  case first =>
    have hq : x5.heap.size < x6.drew.heap.size := by show x5.heap.size < x6.heap.size; omega
    have nq0 := World.new_ne x6 ⟨x5.heap.size, 0, none⟩ q0
    have nq1 := World.new_ne x6 ⟨x5.heap.size, 1, none⟩ q1
    have HY : Hid (∀ X, x6.grownBy X none → Calls Try.prog 11 #[.slice a S.2.length cap] X fun e y => ∃ a6 c6, e = .returned (.slice a6 S.2.length c6) ∧ y.ownsRow X.heap.size 32 1 (.slice a6 S.2.length c6) S.2.length (U S.2) ∧ X.grownBy y none) :=
      fun X hX => (cloneU64_any X _ S.2 (HX.out.2.grown hX) (by omega)).mono fun e y ⟨v, he, ho, hg⟩ => by
        obtain ⟨a6, c6, hv⟩ := (SliceAt.own ho).form
        rw [List.length_map] at hv
        subst hv
        exact ⟨a6, c6, he, ho, hg⟩
    go_region_held3 (fun w' => w'.cell? ⟨x5.heap.size, 0, none⟩ = some (.int .u64 S.1) ∧ w'.cell? ⟨x5.heap.size, 1, none⟩ = some (.slice a S.2.length cap)) (first | go_keep | exact ⟨q0', q1'⟩)
      ((go_at_call 11; refine (HY.out _ (by first | exact grown_drew _ | exact (grown_drew _).trans (World.grownBy_alloc _ _ none))).mono ?_; rintro e y ⟨a6, c6, rfl, o6, g6⟩; have q0' := keep_cell g6 (a := ⟨x5.heap.size, 0, none⟩) (by first | exact q0 | exact (World.cell?_alloc_lt _ _ _ hq).trans q0); have q1' := keep_cell g6 (a := ⟨x5.heap.size, 1, none⟩) (by first | exact q1 | exact (World.cell?_alloc_lt _ _ _ hq).trans q1); have nq0' := World.new_ne y ⟨x5.heap.size, 0, none⟩ q0'; first | (have h7 : (x6.drew.alloc (.cells #[Value.int .u64 0, Value.slice none 0 0] 36)).grownBy y none := g6; obtain ⟨e4, e0, e1, e2, e3⟩ := snap_cells h7) | skip))
    all_goals go_wp2_with fail
    · go_meet
      case rel => exact ⟨_, _, rfl, snap_after HX.out.1 q2 g6 o6⟩
    · go_meet
      case rel => exact ⟨_, _, rfl, snap_before (n := S.2.length) HX.out.1 q2 h7 o6⟩
  case rest =>
    obtain ⟨p, v, rfl, hsnap⟩ := hcut
    clear q0 q1 q2 HX
    obtain ⟨hp, hbox, hrow6, hgr6⟩ := hsnap
    have z0 : wc.cell? ⟨p, 0, none⟩ = some (.int .u64 S.1) := by rw [cell_of_row _ _ _ _ _ _ hbox]; rfl
    have z1 : wc.cell? ⟨p, 1, none⟩ = some v := by rw [cell_of_row _ _ _ _ _ _ hbox]; rfl
    have HP : Hid (x5.heap.size ≤ p ∧ wc.heap[p]? = some (.cells #[.int .u64 S.1, v] 36 (0, 0)) ∧ wc.ownsRow x5.heap.size 32 1 v S.2.length (U S.2) ∧ x5.grownBy wc none) := ⟨hp, hbox, hrow6, hgr6⟩
    clear hbox hrow6 hgr6 hp
    have HT : Hid (true = hasAllB (A node.data.toList) S) := by
      show true = _
      rw [← HR.out.2.1, own_holds (by rw [HR.out.2.1]; exact HR.out.2.2.1 _)]
    go_wp2_with fail
    refine (hasAll (O := O) (b := x4.heap.size) (N := N) (A := A) (by exact HK.out.1.grown HP.out.2.2.2) (by omega) node HA.out.2.2.2.2.1 v S (by exact own_base HP.out.2.2.1 (Nat.zero_le _)) hS0 (by omega) (by omega)).mono ?_
    rintro e y1 ⟨rfl, hy1⟩
    rw [← HT.out]
    go_wp2_with fail
    refine (minInt_any _ _ _).mono ?_
    rintro e y2 ⟨rfl, rfl⟩
    obtain ⟨m, hm, hm1, hm2⟩ : ∃ m : Nat, m = (dotsOf ms mts).length ∧ m ≤ ms.length ∧ m ≤ mts.length := ⟨_, rfl, by rw [dotsOf_length]; omega, by rw [dotsOf_length]; omega⟩
    rw [minI_dots, ← hm]
    have HM : Hid (m = (dotsOf ms mts).length) := hm
    clear hm
    have HG : Hid (ClockOn y2 O x4.heap.size N A ∧ wc.grownBy y2 none ∧ (∀ g, O g → x4.heap.size ≤ g ∧ g < x5.heap.size) ∧ x4.grownBy y2 none ∧ y2.heap[p]? = some (.cells #[.int .u64 S.1, v] 36 (0, 0)) ∧ y2.ownsRow x5.heap.size 32 1 v S.2.length (U S.2) ∧ p < y2.heap.size) := by
      have hx4 := (HK.out.2.2.trans HP.out.2.2.2).trans hy1
      have hb : y2.heap[p]? = some (.cells #[.int .u64 S.1, v] 36 (0, 0)) := by rw [hy1.block p (Array.getElem?_eq_some_iff.1 HP.out.2.1).1 (by simp)]; exact HP.out.2.1
      exact ⟨(HK.out.1.grown HP.out.2.2.2).grown hy1, hy1, fun g hg => ⟨HK.out.2.1 g hg, HK.out.1.lt g hg⟩, hx4, hb, own_far HP.out.2.2.1 (fun g hg => hy1.block g (HP.out.2.2.1.lt g hg).2 (by simp)), (Array.getElem?_eq_some_iff.1 hb).1⟩
    clear hy1 z0 z1
    go_wp2_with fail
    go_loopw [15] (fun s15 wr => ∃ j : Nat, s15 = .int .i64 j ∧ j ≤ m ∧ Adding y2 O x4.heap.size N A (dotsOf ms mts) j wr) (fun s15 _ => m - (intOf s15).toNat)
    case atStart => exact ⟨0, rfl, Nat.zero_le _, Adding.start _ HG.out.1⟩
    case round =>
      obtain ⟨j, rfl, hj, hR⟩ := hrel
      by_cases hlt : j < m
      · obtain ⟨e1, f1, s, rfl, hb1, hcl1, hss, hsz⟩ := HS.out.2.2.1.cell j (by omega)
        obtain ⟨e2, f2, rfl, hb2, hcl2⟩ := HS.out.2.2.2.1.cellInt j (by omega)
        have hcb := HA.out.2.2.2.2.2.2 mts[j] (List.getElem_mem (by omega))
        obtain ⟨O1, hclk, hO1, hkp⟩ := hR
        have hfar : ∀ k, k < x4.heap.size → wr.heap[k]? = x4.heap[k]? := fun k hk => by
          rw [hkp.block k (by have := HG.out.2.2.2.1.size; omega) (fun h => by have := (HG.out.2.2.1 k h).1; omega)]
          exact HG.out.2.2.2.1.block k hk (by simp)
        have k1 : wr.cell? ⟨e1, f1 + j, none⟩ = some (.string s) := by rw [World.cell?_of_block (w := x4) (a := ⟨e1, f1 + j, none⟩) (hfar e1 hb1)]; exact hcl1
        have k2 : wr.cell? ⟨e2, f2 + j, none⟩ = some (.int .u64 mts[j]) := by rw [World.cell?_of_block (w := x4) (a := ⟨e2, f2 + j, none⟩) (hfar e2 hb2)]; exact hcl2
        have HD : Hid ((dotsOf ms mts).take (j + 1) = (dotsOf ms mts).take j ++ [(s.data.toList, mts[j])]) := by rw [hss]; exact dotsOf_take ms mts j (by omega) (by omega)
        have HR1 : Hid (ClockOn wr O1 x4.heap.size (N + j) (((dotsOf ms mts).take j).foldl addD A) ∧ (∀ g, O1 g → O g ∨ y2.heap.size ≤ g) ∧ Kept O y2 wr) := ⟨hclk, hO1, hkp⟩
        have hnO : ∀ k, k < x4.heap.size → ¬ O1 k := fun k hk h => by
          rcases hO1 k h with h' | h'
          · have := (HG.out.2.2.1 k h').1; omega
          · have := HG.out.2.2.2.1.size; omega
        have HN : Hid (∀ k, k < x4.heap.size → ¬ O1 k) := hnO
        generalize mts[j] = c at k2 HD hcb
        have p1 : (j : Int) < (ms.length : Int) := by omega
        have p2 : (j : Int) < (mts.length : Int) := by omega
        have p3 : (j : Int) < (m : Int) := by omega
        have p4 : (0 : Int) ≤ (j : Int) := by omega
        have p5 : N + j < 1000000000000 := by omega
        have p6 : x4.heap.size ≤ wr.heap.size := by have := HG.out.2.2.2.1.size; have := hkp.size; omega
        clear hcl1 hcl2 hss hclk hO1 hkp hfar hnO
        go_wp2_with fail
        go_region_held3 (fun w' => w'.cell? ⟨e1, f1 + j, none⟩ = some (.string s) ∧ w'.cell? ⟨e2, f2 + j, none⟩ = some (.int .u64 c)) (first | go_keep | exact ⟨(World.cell?_of_block (a := ⟨e1, f1 + j, none⟩) (hk2.block e1 (by show e1 < wr.heap.size; omega) (HN.out e1 hb1))).trans k1, (World.cell?_of_block (a := ⟨e2, f2 + j, none⟩) (hk2.block e2 (by show e2 < wr.heap.size; omega) (HN.out e2 hb2))).trans k2⟩)
          ((go_at_call 13; refine (add_any (O := O1) (b := x4.heap.size) (N := N + j) (A := ((dotsOf ms mts).take j).foldl addD A) (by exact HR1.out.1.far (fun g _ => rfl)) p5 s hsz c hcb).mono ?_; rintro e w2 ⟨rfl, O2, hO2, hk2, hclk2⟩))
        go_wp2
        refine ⟨⟨j + 1, by go_num, by omega, ?_⟩, by simp [intOf]; omega⟩
        exact Adding.step (W := wr) HD.out HR1.out.2.1 HR1.out.2.2 hO2 ⟨hk2.os, hk2.tape, hk2.output, hk2.size, hk2.block⟩ hclk2
      · have hjm : j = m := by omega
        obtain ⟨O1, hclk, hO1, hkp⟩ := hR
        have hnO : ∀ k, k < y2.heap.size → x5.heap.size ≤ k → ¬ O1 k := fun k hk hk2 h => by
          rcases hO1 k h with h' | h'
          · have := (HG.out.2.2.1 k h').2; omega
          · omega
        have hnO' : ∀ k, x5.heap.size ≤ k → ¬ O k := fun k hk2 h => by have := (HG.out.2.2.1 k h).2; omega
        have hbx : wr.heap[p]? = some (.cells #[.int .u64 S.1, v] 36 (0, 0)) := by
          rw [hkp.block p HG.out.2.2.2.2.2.2 (hnO' p HP.out.1)]; exact HG.out.2.2.2.2.1
        have z0 : wr.cell? ⟨p, 0, none⟩ = some (.int .u64 S.1) := by rw [cell_of_row _ _ _ _ _ _ hbx]; rfl
        have z1 : wr.cell? ⟨p, 1, none⟩ = some v := by rw [cell_of_row _ _ _ _ _ _ hbx]; rfl
        have HV : Hid (wr.ownsRow 0 32 1 v S.2.length (U S.2)) := own_base (own_far HG.out.2.2.2.2.2.1 fun g hg => by
          have := HG.out.2.2.2.2.2.1.lt g hg
          exact hkp.block g this.2 (hnO' g this.1)) (Nat.zero_le _)
        have HC1 : Hid (ClockOn wr O1 x4.heap.size (N + j) ((dotsOf ms mts).foldl addD A)) := by
          have : (dotsOf ms mts).take j = dotsOf ms mts := by rw [hjm, HM.out, List.take_length]
          rw [this] at hclk; exact hclk
        have HT2 : Hid (true = hasAllB (((dotsOf ms mts).foldl addD A) node.data.toList) S) := by
          show true = _
          rw [HR.out.2.1, grow_holds A (dotsOf ms mts) HR.out.2.2.1 (dotsOf_top ms mts HA.out.2.2.2.2.2.2)]
        have HF : Hid (w3.grownBy wr none) := by
          have h34 := HS.out.2.2.2.2
          have h4y := HG.out.2.2.2.1
          have h3y := h34.trans h4y
          refine ⟨hkp.os.trans h3y.os, hkp.tape.trans h3y.tape, hkp.output.trans h3y.output, Nat.le_trans h3y.size hkp.size, fun k hk _ => ?_⟩
          rw [hkp.block k (by have := h3y.size; omega) (fun h => by have := (HG.out.2.2.1 k h).1; have := h34.size; omega)]
          exact h3y.block k hk (by simp)
        have p5 : N + j < 1000000000000 := by omega
        clear hjm hclk hO1 hkp hnO hnO' hbx
        go_wp2_with fail
        refine (hasAll (O := O1) (b := x4.heap.size) (N := N + j) (A := (dotsOf ms mts).foldl addD A) (by exact HC1.out) p5 node HA.out.2.2.2.2.1 v S (by exact HV.out) hS0 (by omega) (by omega)).mono ?_
        rintro e y3 ⟨rfl, hy3⟩
        rw [← HT2.out]
        go_wp2_with fail
        go_ret
        exact ⟨rfl, HF.out.trans hy3⟩
end Go.Proofs.Qxb6000536a.ck
