import Derived.Test.Qxb6000536aLaw4
import Derived.Test.Qxb6000536aEq
namespace Go.Proofs.Qxb6000536a.ck
open Go.RowKit Go.Lib Go.Maps
set_option linter.unusedVariables false

/-! ### The plain law -/
def addsS (S : Sn) (cs : List Int) : Sn := cs.foldl addS S
def keyDots (k : Key) (cs : List Int) : List (Key × Int) := cs.map fun c => (k, c)
def ones (n : Nat) : List Int := (List.range n).map fun i : Nat => (i : Int) + 1

theorem keyDots_at (k : Key) : ∀ (cs : List Int) (A : Clk), ((keyDots k cs).foldl addD A) k = addsS (A k) cs
  | [], A => rfl
  | c :: r, A => by
    show ((keyDots k r).foldl addD (addD A (k, c))) k = addsS (addS (A k) c) r
    rw [keyDots_at k r]
    simp [addD, addC]
theorem keyDots_length (k : Key) (cs : List Int) : (keyDots k cs).length = cs.length := by simp [keyDots]
theorem keyDots_take (k : Key) (cs : List Int) (j : Nat) (h : j < cs.length) : (keyDots k cs).take (j + 1) = (keyDots k cs).take j ++ [(k, cs[j])] := by
  rw [List.take_succ_eq_append_getElem (by rw [keyDots_length]; exact h)]
  simp [keyDots]
theorem ones_get (n j : Nat) (h : j < n) : (ones n)[j]'(by simp [ones]; exact h) = (j : Int) + 1 := by simp [ones]
theorem ones_length (n : Nat) : (ones n).length = n := by simp [ones]
theorem mem_ones (n : Nat) (y : Int) : y ∈ ones n ↔ 1 ≤ y ∧ y ≤ n := by
  simp only [ones, List.mem_map, List.mem_range]
  constructor
  · rintro ⟨i, hi, rfl⟩; omega
  · rintro ⟨h1, h2⟩; exact ⟨(y - 1).toNat, by omega, by omega⟩

theorem adds_spec : ∀ (cs : List Int) (S : Sn), Canon S → (∀ c ∈ cs, c < 18446744073709551616) → Canon (addsS S cs) ∧ ∀ y, Has (addsS S cs) y ↔ Has S y ∨ y ∈ cs
  | [], S, hS, _ => ⟨hS, fun y => by simp [addsS]⟩
  | c :: r, S, hS, hc => by
    have h1 := (addS_spec S c hS (hc c (by simp))).1
    obtain ⟨h2, h3⟩ := adds_spec r (addS S c) h1 (fun x hx => hc x (by simp [hx]))
    refine ⟨h2, fun y => ?_⟩
    show Has (addsS (addS S c) r) y ↔ _
    rw [h3 y, addS_has S c hS (hc c (by simp)) y, List.mem_cons]
    constructor
    · rintro ((h | h) | h)
      · exact .inl h
      · exact .inr (.inl h)
      · exact .inr (.inr h)
    · rintro (h | h | h)
      · exact .inl (.inl h)
      · exact .inl (.inr h)
      · exact .inr h

/-- HasAll just when adding changes nothing. -/
theorem iff_law (M T : Sn) (hM : Canon M) (hT : Canon T) (hT1 : T.1 < 1000000000000) : hasAllB M T = eqB M (addsS (addsS M (ones T.1.toNat)) T.2) := by
  have hp := hM.pos
  have hq := hT.pos
  obtain ⟨a1, a2⟩ := adds_spec (ones T.1.toNat) M hM (fun c hc => by have := (mem_ones _ _).1 hc; omega)
  obtain ⟨b1, b2⟩ := adds_spec T.2 _ a1 hT.top
  rw [Bool.eq_iff_iff, hasAllB_iff M T hM]
  show _ ↔ decide _ = true
  rw [decide_eq_true_iff]
  constructor
  · intro h
    refine canon_ext hM b1 fun y => ?_
    rw [b2 y, a2 y]
    constructor
    · exact fun h' => .inl (.inl h')
    · rintro ((h' | h') | h')
      · exact h'
      · exact h y (.inl (by have := (mem_ones _ _).1 h'; omega))
      · exact h y (.inr h')
  · intro h y hy
    have : Has (addsS (addsS M (ones T.1.toNat)) T.2) y := by
      rw [b2 y, a2 y]
      rcases hy with hy | hy
      · by_cases hy0 : 1 ≤ y
        · exact .inl (.inr ((mem_ones _ _).2 ⟨hy0, by omega⟩))
        · exact .inl (.inl (.inl (by omega)))
      · exact .inr hy
    rwa [← h] at this

/-- A clock of its own blocks only, added to: nothing below them turns. -/
theorem Adding.grown {y3 y4 wr : World} {O2 : Nat → Prop} {b N : Nat} {A : Clk} {dots : List (Key × Int)} {j : Nat} (hg : y3.grownBy y4 none) (hO : ∀ g, O2 g → y3.heap.size ≤ g) (h : Adding y4 O2 b N A dots j wr) : y3.grownBy wr none := by
  obtain ⟨O1, _, _, hk⟩ := h
  exact build_step hO hg hk
theorem bool_true {a b : Bool} (h : a = b) : Ending.returned (.bool (a == b)) = .returned (.bool true) := by rw [h]; simp

set_option maxHeartbeats 4000000 in
set_option maxRecDepth 100000 in
theorem law3 (w : World) (node : ByteArray) (hnode : node.size ≤ maxLen) (v1 v2 v3 : Value) (ss : List ByteArray) (cts scs : List Int)
    (h1 : StrsAt w v1 ss) (h2 : SliceAt w v2 (cts.map (Value.int .u64))) (h3 : SliceAt w v3 (scs.map (Value.int .u64)))
    (n1 : ss.length ≤ 9223372036854775807) (n2 : cts.length ≤ 9223372036854775807) (n3 : scs.length ≤ 9223372036854775807)
    (hc : ∀ c ∈ cts, c < 18446744073709551616) (hm : ∀ c ∈ scs, c < 18446744073709551616) :
    Calls Try.prog 3 #[.string node, v1, v2, v3] w (TrueG w) := by
  have Z := zz8 w node hnode v1 ss h1 n1 v2 (cts.map (Value.int .u64)) h2 (by simpa using n2) v3 (scs.map (Value.int .u64)) h3 (by simpa using n3)
  have HZ : Hid (Calls Try.prog 8 #[.string node, v1, v2, v3] w (SomeBool w)) := Z
  clear Z
  obtain ⟨a1, c1, hv1⟩ := h1.1.form
  obtain ⟨a2, c2, hv2⟩ := h2.form
  obtain ⟨a3, c3, hv3⟩ := h3.form
  rw [List.length_map] at hv1 hv2 hv3
  subst hv1 hv2 hv3
  have HA : Hid (StrsAt w (.slice a1 ss.length c1) ss ∧ SliceAt w (.slice a2 cts.length c2) (cts.map (Value.int .u64)) ∧ SliceAt w (.slice a3 scs.length c3) (scs.map (Value.int .u64)) ∧ node.size ≤ maxLen ∧ (∀ c ∈ cts, c < 18446744073709551616) ∧ (∀ c ∈ scs, c < 18446744073709551616)) := ⟨h1, h2, h3, hnode, hc, hm⟩
  clear h1 h2 h3 hc hm
  unfold maxLen at hnode
  go_enter Try.func3, Try.ntmps3
  go_wp2_with fail
  refine HZ.out.mono ?_
  rintro e w' ⟨r, rfl, rfl⟩
  cases r
  · go_wp2_with fail
    go_ret
    exact ⟨rfl, grown_refl _⟩
  clear HZ
  by_cases l0 : 1048576 < (node.size : Int)
  · go_wp2_with fail
    go_ret
    exact ⟨rfl, grown_refl _⟩
  by_cases l1 : 65536 < (ss.length : Int)
  · go_wp2_with fail
    go_ret
    exact ⟨rfl, grown_refl _⟩
  by_cases l2 : 65536 < (cts.length : Int)
  · go_wp2_with fail
    go_ret
    exact ⟨rfl, grown_refl _⟩
  by_cases l3 : 65536 < (scs.length : Int)
  · go_wp2_with fail
    go_ret
    exact ⟨rfl, grown_refl _⟩
  have d0 : decide (1048576 < (node.size : Int)) = false := decide_eq_false l0
  have d1 : decide (65536 < (ss.length : Int)) = false := decide_eq_false l1
  have d2 : decide (65536 < (cts.length : Int)) = false := decide_eq_false l2
  have d3 : decide (65536 < (scs.length : Int)) = false := decide_eq_false l3
  clear n1 n2 n3
  go_wp2_with fail
  refine (strBytes_any _ _ ss (by exact HA.out.1) (by omega)).mono ?_
  rintro e w3 ⟨t1, rfl, t10, t11, rfl⟩
  by_cases ls : 1048576 < (node.size : Int) + t1 + 16 * (ss.length : Int) + 8 * (cts.length : Int) + 8 * (scs.length : Int)
  · go_wp2_with fail
    go_ret
    exact ⟨rfl, grown_refl _⟩
  have d5 : decide (1048576 < (node.size : Int) + t1 + 16 * (ss.length : Int) + 8 * (cts.length : Int) + 8 * (scs.length : Int)) = false := decide_eq_false ls
  clear hnode
  -- the three clones
  go_wp2_with fail
  refine (cloneStrs_any _ _ ss (by exact HA.out.1.1) (by omega)).mono ?_
  rintro e x1 ⟨u1, rfl, o1, g1⟩
  have HB : Hid (x1.ownsRow w3.heap.size 9 1 u1 ss.length (ss.map Value.string) ∧ w3.grownBy x1 none) := ⟨o1, g1⟩
  clear o1 g1
  go_wp2_with fail
  refine (cloneU64_any _ _ cts (by exact HA.out.2.1.grown HB.out.2) (by omega)).mono ?_
  rintro e x2 ⟨u2, rfl, o2, g2⟩
  have HC : Hid (x2.ownsRow x1.heap.size 32 1 u2 cts.length (cts.map (Value.int .u64)) ∧ x1.grownBy x2 none) := ⟨o2, g2⟩
  clear o2 g2
  go_wp2_with fail
  refine (cloneU64_any _ _ scs (by exact (HA.out.2.2.1.grown HB.out.2).grown HC.out.2) (by omega)).mono ?_
  rintro e x4 ⟨u4, rfl, o4, g4⟩
  obtain ⟨b4, k4, hu4⟩ := (SliceAt.own o4).form
  rw [List.length_map] at hu4
  subst hu4
  have HE : Hid (x4.ownsRow x2.heap.size 32 1 (.slice b4 scs.length k4) scs.length (scs.map (Value.int .u64)) ∧ x2.grownBy x4 none) := ⟨o4, g4⟩
  clear o4 g4
  have HS : Hid (StrsAt x4 u1 ss ∧ SliceAt x4 u2 (cts.map (Value.int .u64)) ∧ SliceAt x4 (.slice b4 scs.length k4) (scs.map (Value.int .u64)) ∧ w3.grownBy x4 none) :=
    ⟨⟨((SliceAt.own HB.out.1).grown HC.out.2).grown HE.out.2, HA.out.1.2⟩, (SliceAt.own HC.out.1).grown HE.out.2, SliceAt.own HE.out.1, (HB.out.2.trans HC.out.2).trans HE.out.2⟩
  clear HB HC HE
  -- the clock c
  go_wp2_with fail
  refine (buildOne_any _ _ _ ss cts (by exact HS.out.1) (by exact HS.out.2.1) (by omega) (by omega) HA.out.2.2.2.2.1).mono ?_
  rintro e x5 ⟨rfl, O, hO, hclk, g5⟩
  rw [List.take_length] at hclk
  have HK : Hid (ClockOn x5 O x4.heap.size (dotsOf ss cts).length (clkOf (dotsOf ss cts)) ∧ (∀ g, O g → x4.heap.size ≤ g) ∧ x4.grownBy x5 none) := ⟨hclk, hO, g5⟩
  have hNb : (dotsOf ss cts).length < 1000000 := by rw [dotsOf_length]; omega
  clear hclk hO g5
  have hmm := @run_makeMap Try.prog
  go_wp2_with fail
  -- the clock sc
  obtain ⟨y0, hy0⟩ : ∃ y0, y0 = x5.alloc (.map #[] 0) := ⟨_, rfl⟩
  have HY : Hid (ClockOn y0 (fun k => k = x5.heap.size) x5.heap.size 0 zeroC ∧ x5.grownBy y0 none ∧ y0.heap.size = x5.heap.size + 1) := by
    rw [hy0]; exact ⟨ClockOn.made x5, World.grownBy_alloc _ _ _, by simp⟩
  rw [← hy0]
  clear hy0 hmm
  have HD : Hid (∀ k, k < x5.heap.size → y0.heap[k]? = x5.heap[k]?) := fun k hk => HY.out.2.1.block k hk (by simp)
  go_loopw [11] (fun s11 wr => ∃ j : Nat, s11 = .int .i64 j ∧ j ≤ scs.length ∧ Adding y0 (fun k => k = x5.heap.size) x5.heap.size 0 zeroC (keyDots node.data.toList scs) j wr) (fun s11 _ => scs.length - (intOf s11).toNat)
  case atStart => exact ⟨0, rfl, Nat.zero_le _, Adding.start _ HY.out.1⟩
  case round =>
    obtain ⟨j, rfl, hj, hR⟩ := hrel
    by_cases hlt : j < scs.length
    · obtain ⟨e2, f2, rfl, hb2, hcl2⟩ := HS.out.2.2.1.cellInt j hlt
      have hcb := HA.out.2.2.2.2.2 scs[j] (List.getElem_mem hlt)
      obtain ⟨O1, hclk, hO1, hkp⟩ := hR
      have k2 : wr.cell? ⟨e2, f2 + j, none⟩ = some (.int .u64 scs[j]) := by
        have h45 := HK.out.2.2.size
        rw [World.cell?_of_block (w := y0) (a := ⟨e2, f2 + j, none⟩) (hkp.block e2 (by have := HY.out.2.2; omega) (by show ¬ e2 = x5.heap.size; omega)),
          World.cell?_of_block (w := x5) (a := ⟨e2, f2 + j, none⟩) (HD.out e2 (by omega)), World.cell?_of_block (w := x4) (a := ⟨e2, f2 + j, none⟩) (HK.out.2.2.block e2 hb2 (by simp))]
        exact hcl2
      have HDT : Hid ((keyDots node.data.toList scs).take (j + 1) = (keyDots node.data.toList scs).take j ++ [(node.data.toList, scs[j])]) := keyDots_take _ _ j hlt
      have HR1 : Hid (ClockOn wr O1 x5.heap.size (0 + j) (((keyDots node.data.toList scs).take j).foldl addD zeroC) ∧ (∀ g, O1 g → g = x5.heap.size ∨ y0.heap.size ≤ g) ∧ Kept (fun k => k = x5.heap.size) y0 wr) := ⟨hclk, hO1, hkp⟩
      generalize scs[j] = c at k2 HDT hcb
      have p2 : (j : Int) < (scs.length : Int) := by omega
      have p5 : 0 + j < 1000000000000 := by omega
      clear hcl2 hclk hO1 hkp
      go_wp2_with fail
      refine (add_any (O := O1) (b := x5.heap.size) (N := 0 + j) (A := ((keyDots node.data.toList scs).take j).foldl addD zeroC) (by exact HR1.out.1) p5 node HA.out.2.2.2.1 c hcb).mono ?_
      rintro e w2 ⟨rfl, O2, hO2, hk2, hclk2⟩
      go_wp2_with fail
      refine ⟨⟨j + 1, by go_num, by omega, ?_⟩, by simp [intOf]; omega⟩
      exact Adding.step (W := wr) HDT.out HR1.out.2.1 HR1.out.2.2 hO2 hk2 hclk2
    · obtain ⟨yw, hyw⟩ : ∃ y, y = wr := ⟨_, rfl⟩
      subst hyw
      have hjm : j = scs.length := by omega
      obtain ⟨O1, hclk, hO1, hkp⟩ := hR
      have htk : (keyDots node.data.toList scs).take j = keyDots node.data.toList scs := by rw [hjm, ← keyDots_length node.data.toList scs, List.take_length]
      rw [htk] at hclk
      -- c is as it was
      have hx5 : ∀ k, k < x5.heap.size → yw.heap[k]? = x5.heap[k]? := fun k hk => by
        rw [hkp.block k (by have := HY.out.2.2; omega) (by show ¬ k = x5.heap.size; omega)]; exact HD.out k hk
      have hsz5 : x5.heap.size ≤ yw.heap.size := by have := HY.out.2.2; have := hkp.size; omega
      have hg5 : x5.grownBy yw none := ⟨hkp.os.trans HY.out.2.1.os, hkp.tape.trans HY.out.2.1.tape, hkp.output.trans HY.out.2.1.output, hsz5, fun k hk _ => hx5 k hk⟩
      obtain ⟨D, sv, hI⟩ := hclk
      have hlk := hI.look node HA.out.2.2.2.1
      have hrow := hI.row node.data.toList
      have hcan := hI.canon node.data.toList
      have hcnt := hI.cnt node.data.toList
      obtain ⟨a, cap, hv, hform⟩ := row_form hrow
      rw [hv] at hlk hrow
      obtain ⟨T, hT⟩ : ∃ T, T = ((keyDots node.data.toList scs).foldl addD zeroC) node.data.toList := ⟨_, rfl⟩
      rw [← hT] at hlk hrow hcan hcnt
      have hT0 : 0 ≤ T.1 := hcan.pos
      have hT1 : T.1 ≤ (scs.length : Int) := by omega
      have hT2 : T.2.length ≤ scs.length := by omega
      obtain ⟨M, hM⟩ : ∃ M, M = clkOf (dotsOf ss cts) node.data.toList := ⟨_, rfl⟩
      have hMc : Canon M := by rw [hM]; obtain ⟨D', sv', hI'⟩ := HK.out.1; exact hI'.canon _
      have HT : Hid (yw.ownsRow 0 32 1 (.slice a T.2.length cap) T.2.length (U T.2) ∧ Canon T ∧ x5.grownBy yw none ∧ M = clkOf (dotsOf ss cts) node.data.toList ∧ hasAllB M T = eqB M (addsS (addsS M (ones T.1.toNat)) T.2) ∧ ∀ c ∈ T.2, c < 18446744073709551616) :=
        ⟨hrow, hcan, hg5, hM, iff_law M T hMc hcan (by omega), hcan.top⟩
      clear hjm htk hI hO1 hkp hx5 hrow hcan hcnt hv hT hM hMc hg5 HD HY
      go_wp2_with fail
      clear hlk
      obtain ⟨y2, hy2⟩ : ∃ y2, y2 = yw.alloc (.cells #[.int .u64 T.1, .slice a T.2.length cap] 36) := ⟨_, rfl⟩
      have H2 : Hid (yw.grownBy y2 none ∧ y2.heap[yw.heap.size]? = some (.cells #[.int .u64 T.1, .slice a T.2.length cap] 36 (0, 0)) ∧ y2.ownsRow 0 32 1 (.slice a T.2.length cap) T.2.length (U T.2)) := by
        rw [hy2]; exact ⟨World.grownBy_alloc _ _ _, heap_alloc_new yw _, HT.out.1.alloc _⟩
      rw [← hy2]
      clear hy2
      refine (hasAll (O := O) (b := x4.heap.size) (N := (dotsOf ss cts).length) (A := clkOf (dotsOf ss cts)) (by exact (HK.out.1.grown HT.out.2.2.1).grown H2.out.1) (by omega) node HA.out.2.2.2.1 _ T (by exact H2.out.2.2) hT0 (by omega) (by omega)).mono ?_
      rintro e y3 ⟨rfl, hy3⟩
      rw [← HT.out.2.2.2.1, HT.out.2.2.2.2.1]
      have H3 : Hid (x5.grownBy y3 none ∧ y3.heap[yw.heap.size]? = some (.cells #[.int .u64 T.1, .slice a T.2.length cap] 36 (0, 0)) ∧ y3.ownsRow 0 32 1 (.slice a T.2.length cap) T.2.length (U T.2) ∧ yw.heap.size < y3.heap.size) := by
        have hb : y3.heap[yw.heap.size]? = some (.cells #[.int .u64 T.1, .slice a T.2.length cap] 36 (0, 0)) := by rw [hy3.block _ (Array.getElem?_eq_some_iff.1 H2.out.2.1).1 (by simp)]; exact H2.out.2.1
        exact ⟨(HT.out.2.2.1.trans H2.out.1).trans hy3, hb, own_far H2.out.2.2 (fun g hg => hy3.block g (H2.out.2.2.lt g hg).2 (by simp)), (Array.getElem?_eq_some_iff.1 hb).1⟩
      clear hy3 H2
      obtain ⟨res, hres⟩ : ∃ r, r = eqB M (addsS (addsS M (ones T.1.toNat)) T.2) := ⟨_, rfl⟩
      have HQ : Hid (res = eqB M (addsS (addsS M (ones T.1.toNat)) T.2)) := hres
      rw [← hres]
      clear hres
      -- the clock c2
      go_wp2_with fail
      refine (buildOne_any _ _ _ ss cts (by exact (HS.out.1.grown HK.out.2.2).grown H3.out.1) (by exact (HS.out.2.1.grown HK.out.2.2).grown H3.out.1) (by omega) (by omega) HA.out.2.2.2.2.1).mono ?_
      rintro e y4 ⟨rfl, O2, hO2, hclk2, g4⟩
      rw [List.take_length] at hclk2
      have H4 : Hid (ClockOn y4 O2 y3.heap.size (dotsOf ss cts).length (clkOf (dotsOf ss cts)) ∧ (∀ g, O2 g → y3.heap.size ≤ g) ∧ y3.grownBy y4 none) := ⟨hclk2, hO2, g4⟩
      clear hclk2 hO2 g4
      go_wp2_with fail
      go_loopw [15] (fun s15 wr => ∃ i : Nat, s15 = .int .i64 i ∧ i ≤ T.1.toNat ∧ Adding y4 O2 y3.heap.size (dotsOf ss cts).length (clkOf (dotsOf ss cts)) (keyDots node.data.toList (ones T.1.toNat)) i wr) (fun s15 _ => T.1.toNat - (intOf s15).toNat)
      case atStart => exact ⟨0, rfl, Nat.zero_le _, Adding.start _ H4.out.1⟩
      case round =>
        obtain ⟨i, rfl, hi, hR⟩ := hrel
        have hgr := hR.grown H4.out.2.2 H4.out.2.1
        have hbx : wr.heap[yw.heap.size]? = some (.cells #[.int .u64 T.1, .slice a T.2.length cap] 36 (0, 0)) := by rw [hgr.block _ H3.out.2.2.2 (by simp)]; exact H3.out.2.1
        have k0 : wr.cell? ⟨yw.heap.size, 0, none⟩ = some (.int .u64 T.1) := by rw [cell_of_row _ _ _ _ _ _ hbx]; rfl
        have k1 : wr.cell? ⟨yw.heap.size, 1, none⟩ = some (.slice a T.2.length cap) := by rw [cell_of_row _ _ _ _ _ _ hbx]; rfl
        clear hbx hgr
        by_cases hil : i < T.1.toNat
        · obtain ⟨O3, hclk3, hO3, hk3⟩ := hR
          have HR1 : Hid (ClockOn wr O3 y3.heap.size ((dotsOf ss cts).length + i) (((keyDots node.data.toList (ones T.1.toNat)).take i).foldl addD (clkOf (dotsOf ss cts))) ∧ (∀ g, O3 g → O2 g ∨ y4.heap.size ≤ g) ∧ Kept O2 y4 wr) := ⟨hclk3, hO3, hk3⟩
          have HDT : Hid ((keyDots node.data.toList (ones T.1.toNat)).take (i + 1) = (keyDots node.data.toList (ones T.1.toNat)).take i ++ [(node.data.toList, (i : Int) + 1)]) := by
            have := keyDots_take node.data.toList (ones T.1.toNat) i (by rw [ones_length]; exact hil)
            rwa [ones_get _ _ hil] at this
          clear hclk3 hO3 hk3
          have p1 : (i : Int) < (scs.length : Int) := by omega
          have p2 : (i : Int) < T.1 := by omega
          have p5 : (dotsOf ss cts).length + i < 1000000000000 := by omega
          go_wp2_with fail
          refine (add_any (O := O3) (b := y3.heap.size) (N := (dotsOf ss cts).length + i) (A := ((keyDots node.data.toList (ones T.1.toNat)).take i).foldl addD (clkOf (dotsOf ss cts))) (by exact HR1.out.1) p5 node HA.out.2.2.2.1 ((i : Int) + 1) (by omega)).mono ?_
          rintro e w2 ⟨rfl, O4, hO4, hk4, hclk4⟩
          go_wp2_with fail
          refine ⟨⟨i + 1, by go_num, by omega, ?_⟩, by simp [intOf]; omega⟩
          exact Adding.step (W := wr) HDT.out HR1.out.2.1 HR1.out.2.2 hO4 hk4 hclk4
        · obtain ⟨y5, hy5⟩ : ∃ y, y = wr := ⟨_, rfl⟩
          subst hy5
          have hiT : i = T.1.toNat := by omega
          subst hiT
          have hg35 := hR.grown H4.out.2.2 H4.out.2.1
          obtain ⟨O3, hclk3, hO3, hk3⟩ := hR
          have htk : (keyDots node.data.toList (ones T.1.toNat)).take T.1.toNat = keyDots node.data.toList (ones T.1.toNat) := List.take_of_length_le (by rw [keyDots_length, ones_length]; exact Nat.le_refl _)
          rw [htk] at hclk3
          have H5 : Hid (ClockOn y5 O3 y3.heap.size ((dotsOf ss cts).length + T.1.toNat) ((keyDots node.data.toList (ones T.1.toNat)).foldl addD (clkOf (dotsOf ss cts))) ∧ (∀ g, O3 g → y3.heap.size ≤ g) ∧ y3.grownBy y5 none) :=
            ⟨hclk3, fun g hg => by
              rcases hO3 g hg with h | h
              · exact H4.out.2.1 g h
              · exact Nat.le_trans H4.out.2.2.size h, hg35⟩
          clear hclk3 hO3 hk3 htk hg35 hi hil
          have q0 : ¬ ((T.1.toNat : Int) < T.1) := by omega
          by_cases hgd : ((T.1.toNat : Int) < (scs.length : Int))
          all_goals
            go_wp2_with fail
            clear k0 k1 q0 hgd
            go_loopw [16] (fun s16 wr => ∃ j : Nat, s16 = .int .i64 j ∧ j ≤ T.2.length ∧ Adding y5 O3 y3.heap.size ((dotsOf ss cts).length + T.1.toNat) ((keyDots node.data.toList (ones T.1.toNat)).foldl addD (clkOf (dotsOf ss cts))) (keyDots node.data.toList T.2) j wr) (fun s16 _ => T.2.length - (intOf s16).toNat)
            case atStart => exact ⟨0, rfl, Nat.zero_le _, Adding.start _ H5.out.1⟩
            case round =>
              obtain ⟨j, rfl, hj, hR⟩ := hrel
              have hgr := hR.grown H5.out.2.2 H5.out.2.1
              have hbx : wr.heap[yw.heap.size]? = some (.cells #[.int .u64 T.1, .slice a T.2.length cap] 36 (0, 0)) := by rw [hgr.block _ H3.out.2.2.2 (by simp)]; exact H3.out.2.1
              have k1 : wr.cell? ⟨yw.heap.size, 1, none⟩ = some (.slice a T.2.length cap) := by rw [cell_of_row _ _ _ _ _ _ hbx]; rfl
              by_cases hjl : j < T.2.length
              · obtain ⟨e2, f2, rfl, hb2, hcl2⟩ := SliceAt.cellInt (xs := T.2) (q := .u64) (SliceAt.own H3.out.2.2.1) j hjl
                have k2 : wr.cell? ⟨e2, f2 + j, none⟩ = some (.int .u64 T.2[j]) := by
                  rw [World.cell?_of_block (w := y3) (a := ⟨e2, f2 + j, none⟩) (hgr.block e2 hb2 (by simp))]
                  exact hcl2
                have hcb := HT.out.2.2.2.2.2 T.2[j] (List.getElem_mem hjl)
                obtain ⟨O4, hclk4, hO4, hk4⟩ := hR
                have HR1 : Hid (ClockOn wr O4 y3.heap.size ((dotsOf ss cts).length + T.1.toNat + j) (((keyDots node.data.toList T.2).take j).foldl addD ((keyDots node.data.toList (ones T.1.toNat)).foldl addD (clkOf (dotsOf ss cts)))) ∧ (∀ g, O4 g → O3 g ∨ y5.heap.size ≤ g) ∧ Kept O3 y5 wr) := ⟨hclk4, hO4, hk4⟩
                have HDT : Hid ((keyDots node.data.toList T.2).take (j + 1) = (keyDots node.data.toList T.2).take j ++ [(node.data.toList, T.2[j])]) := keyDots_take _ _ j hjl
                generalize T.2[j] = c at k2 HDT hcb
                clear hclk4 hO4 hk4 hgr hbx hcl2
                have p1 : (j : Int) < (T.2.length : Int) := by omega
                have p5 : (dotsOf ss cts).length + T.1.toNat + j < 1000000000000 := by omega
                go_wp2_with fail
                refine (add_any (O := O4) (b := y3.heap.size) (N := (dotsOf ss cts).length + T.1.toNat + j) (A := ((keyDots node.data.toList T.2).take j).foldl addD ((keyDots node.data.toList (ones T.1.toNat)).foldl addD (clkOf (dotsOf ss cts)))) (by exact HR1.out.1) p5 node HA.out.2.2.2.1 c hcb).mono ?_
                rintro e w2 ⟨rfl, O5, hO5, hk5, hclk5⟩
                go_wp2_with fail
                refine ⟨⟨j + 1, by go_num, by omega, ?_⟩, by simp [intOf]; omega⟩
                exact Adding.step (W := wr) HDT.out HR1.out.2.1 HR1.out.2.2 hO5 hk5 hclk5
              · have hjT : j = T.2.length := by omega
                subst hjT
                obtain ⟨O4, hclk4, hO4, hk4⟩ := hR
                have htk : (keyDots node.data.toList T.2).take T.2.length = keyDots node.data.toList T.2 := List.take_of_length_le (by rw [keyDots_length]; exact Nat.le_refl _)
                rw [htk] at hclk4
                obtain ⟨D2, sv2, hI2⟩ := hclk4
                obtain ⟨D1, sv1, hI1⟩ := (HK.out.1.grown H3.out.1).grown hgr
                have lk1 := hI1.look node HA.out.2.2.2.1
                have lk2 := hI2.look node HA.out.2.2.2.1
                have rw1 := hI1.row node.data.toList
                have rw2 := hI2.row node.data.toList
                have cn1 := hI1.cnt node.data.toList
                have cn2 := hI2.cnt node.data.toList
                have ps1 := (hI1.canon node.data.toList).pos
                have ps2 := (hI2.canon node.data.toList).pos
                obtain ⟨a5, cap5, hv5, _⟩ := row_form rw1
                obtain ⟨a6, cap6, hv6, _⟩ := row_form rw2
                rw [hv5] at lk1 rw1
                rw [hv6] at lk2 rw2
                rw [keyDots_at, keyDots_at] at lk2 rw2 cn2 ps2
                rw [← HT.out.2.2.2.1] at lk1 rw1 cn1 lk2 rw2 cn2 ps1 ps2
                obtain ⟨M2, hM2⟩ : ∃ M2, M2 = addsS (addsS M (ones T.1.toNat)) T.2 := ⟨_, rfl⟩
                rw [← hM2] at lk2 rw2 cn2 ps2
                have HF : Hid (wr.ownsRow 0 32 1 (.slice a5 M.2.length cap5) M.2.length (U M.2) ∧ wr.ownsRow 0 32 1 (.slice a6 M2.2.length cap6) M2.2.length (U M2.2) ∧ y3.grownBy wr none ∧ res = eqB M M2) := ⟨rw1, rw2, hgr, by rw [hM2]; exact HQ.out⟩
                have m1 : M.2.length < 1000000000000 := by omega
                have m2 : M2.2.length < 1000000000000 := by omega
                clear hI1 hI2 rw1 rw2 cn1 cn2 ps1 ps2 hv5 hv6 hM2 htk hO4 hk4 hgr hbx hj
                go_wp2_with fail
                clear lk1 lk2
                refine (seenEq_any _ _ _ M M2 (by exact HF.out.1) (by exact HF.out.2.1) m1 m2).mono ?_
                rintro e w9 ⟨rfl, hg9⟩
                rw [← HF.out.2.2.2]
                go_wp2_with fail
                go_ret
                exact ⟨rfl, (((HS.out.2.2.2.trans HK.out.2.2).trans H3.out.1).trans HF.out.2.2.1).trans hg9⟩
end Go.Proofs.Qxb6000536a.ck
