import Derived.Test.Qxb6000536aCheck
import Derived.Test.Qxb6000536aMany
import Derived.Test.Qxb6000536aLaw5
namespace Go.Proofs.Qxb6000536a.ck
open Go.RowKit Go.Lib Go.Maps
set_option linter.unusedVariables false

/-- The clocks and one more. -/
def moreRow (b : Nat → Nat) (n eb : Nat) : List Value := (List.range (n + 1)).map fun i => Value.map (some (if i < n then b i else eb))
theorem moreRow_length (b : Nat → Nat) (n eb : Nat) : (moreRow b n eb).length = n + 1 := by simp [moreRow]
theorem moreRow_get (b : Nat → Nat) (n eb i : Nat) (h : i < (moreRow b n eb).length) : (moreRow b n eb)[i] = .map (some (if i < n then b i else eb)) := by simp [moreRow]

theorem Filled.cellAt {w W : World} {e : TypeId} {vs : List Value} (h : Filled w e vs vs.length W) (i : Nat) (hi : i < vs.length) : W.cell? ⟨w.heap.size, i, none⟩ = some vs[i] := by
  obtain ⟨C, hC, hs, ht⟩ := h.row
  rw [cell_of_row _ _ _ _ _ _ hC]
  have e1 : C.toList.take vs.length = C.toList := List.take_of_length_le (by simp; omega)
  rw [e1, List.take_length] at ht
  have h2 : C[i]? = vs[i]? := by rw [← ht]; simp
  rw [h2, List.getElem?_eq_getElem hi]

theorem Cks.extend {x z : World} {r n N Ne eb : Nat} {O : Nat → Nat → Prop} {b : Nat → Nat} {A : Nat → Clk} {Oe : Nat → Prop} {E : Clk} (h : Cks x r n N O b A) (he : ClockOn x Oe eb Ne E) (hd : ∀ i g, i < n → O i g → ¬ Oe g) (hf : Filled x 29 (moreRow b n eb) (n + 1) z) :
    Cks z x.heap.size (n + 1) (N + Ne) (fun i => if i < n then O i else Oe) (fun i => if i < n then b i else eb) (fun i => if i < n then A i else E) := by
  refine ⟨fun i hi => ?_, ?_, fun i hi => ?_, fun i j g hi hj hg hg' => ?_, fun i g hi hg => ?_⟩
  · have hl := moreRow_length b n eb
    have := Filled.cellAt (vs := moreRow b n eb) (by rw [hl]; exact hf) i (by omega)
    rw [moreRow_get] at this
    exact this
  · obtain ⟨C, hC, _⟩ := hf.row
    exact (Array.getElem?_eq_some_iff.1 hC).1
  · by_cases e : i < n
    · simp only [e, if_true]; exact ((h.clk i e).grown hf.gr).raise (by omega)
    · simp only [e, if_false]; exact (he.grown hf.gr).raise (by omega)
  · by_cases e : i < n <;> by_cases e' : j < n
    · simp only [e, e', if_true] at hg hg'; exact h.dis i j g e e' hg hg'
    · simp only [e, e', if_true, if_false] at hg hg'; exact absurd hg' (hd i g e hg)
    · simp only [e, e', if_true, if_false] at hg hg'; exact absurd hg (hd j g e' hg')
    · omega
  · by_cases e : i < n
    · simp only [e, if_true] at hg; have := (h.clk i e).ltAt g hg; omega
    · simp only [e, if_false] at hg; have := he.ltAt g hg; omega

/-- In the middle of the law's last two loops: the nodes that were looked at. -/
def L7 (z : World) (cb j : Nat) (wr : World) : Prop := ∃ M dom, M ≤ j ∧ MapOn wr cb M (.bool false) (fun k => .bool (dom k)) dom ∧ z.grownBy wr none

set_option maxHeartbeats 4000000 in
set_option maxRecDepth 100000 in
theorem law7 (w : World) (nc : Int) (v1 v2 v3 v4 v5 : Value) (xs : List Int) (ss : List ByteArray) (cts : List Int) (es : List ByteArray) (ets : List Int)
    (h1 : SliceAt w v1 (xs.map (Value.int .u16))) (h2 : StrsAt w v2 ss) (h3 : SliceAt w v3 (cts.map (Value.int .u64))) (h4 : StrsAt w v4 es) (h5 : SliceAt w v5 (ets.map (Value.int .u64)))
    (n1 : xs.length ≤ 9223372036854775807) (n2 : ss.length ≤ 9223372036854775807) (n3 : cts.length ≤ 9223372036854775807) (n4 : es.length ≤ 9223372036854775807) (n5 : ets.length ≤ 9223372036854775807)
    (hx : ∀ c ∈ xs, 0 ≤ c ∧ c < 65536) (hc : ∀ c ∈ cts, c < 18446744073709551616) (hm : ∀ c ∈ ets, c < 18446744073709551616) :
    Calls Try.prog 7 #[.int .i64 nc, v1, v2, v3, v4, v5] w (TrueG w) := by
  have Z := zz24 w nc v1 (xs.map (Value.int .u16)) h1 (by simpa using n1) v2 ss h2 n2 v3 (cts.map (Value.int .u64)) h3 (by simpa using n3) v4 es h4 n4 v5 (ets.map (Value.int .u64)) h5 (by simpa using n5)
  have HZ : Hid (Calls Try.prog 24 #[.int .i64 nc, v1, v2, v3, v4, v5] w (SomeBool w)) := Z
  clear Z
  obtain ⟨a1, c1, hv1⟩ := h1.form
  obtain ⟨a2, c2, hv2⟩ := h2.1.form
  obtain ⟨a3, c3, hv3⟩ := h3.form
  obtain ⟨a4, c4, hv4⟩ := h4.1.form
  obtain ⟨a5, c5, hv5⟩ := h5.form
  rw [List.length_map] at hv1 hv2 hv3 hv4 hv5
  subst hv1 hv2 hv3 hv4 hv5
  have HA : Hid (SliceAt w (.slice a1 xs.length c1) (xs.map (Value.int .u16)) ∧ StrsAt w (.slice a2 ss.length c2) ss ∧ SliceAt w (.slice a3 cts.length c3) (cts.map (Value.int .u64)) ∧ StrsAt w (.slice a4 es.length c4) es ∧ SliceAt w (.slice a5 ets.length c5) (ets.map (Value.int .u64)) ∧
      (∀ c ∈ xs, 0 ≤ c ∧ c < 65536) ∧ (∀ c ∈ cts, c < 18446744073709551616) ∧ ∀ c ∈ ets, c < 18446744073709551616) := ⟨h1, h2, h3, h4, h5, hx, hc, hm⟩
  clear h1 h2 h3 h4 h5 hx hc hm
  go_enter Try.func7, Try.ntmps7
  go_wp2_with fail
  refine HZ.out.mono ?_
  rintro e w' ⟨r, rfl, rfl⟩
  cases r
  · go_wp2_with fail
    go_ret
    exact ⟨rfl, grown_refl _⟩
  clear HZ
  by_cases l0 : nc < 0
  · go_wp2_with fail
    go_ret
    exact ⟨rfl, grown_refl _⟩
  by_cases l00 : 1024 < nc
  · go_wp2_with fail
    go_ret
    exact ⟨rfl, grown_refl _⟩
  by_cases l1 : 65536 < (xs.length : Int)
  · go_wp2_with fail
    go_ret
    exact ⟨rfl, grown_refl _⟩
  by_cases l2 : 65536 < (ss.length : Int)
  · go_wp2_with fail
    go_ret
    exact ⟨rfl, grown_refl _⟩
  by_cases l3 : 65536 < (cts.length : Int)
  · go_wp2_with fail
    go_ret
    exact ⟨rfl, grown_refl _⟩
  by_cases l4 : 65536 < (es.length : Int)
  · go_wp2_with fail
    go_ret
    exact ⟨rfl, grown_refl _⟩
  by_cases l5 : 65536 < (ets.length : Int)
  · go_wp2_with fail
    go_ret
    exact ⟨rfl, grown_refl _⟩
  obtain ⟨n, rfl⟩ : ∃ n : Nat, nc = n := ⟨nc.toNat, by omega⟩
  have d0 : decide ((n : Int) < 0) = false := decide_eq_false l0
  have d00 : decide (1024 < (n : Int)) = false := decide_eq_false l00
  have d1 : decide (65536 < (xs.length : Int)) = false := decide_eq_false l1
  have d2 : decide (65536 < (ss.length : Int)) = false := decide_eq_false l2
  have d3 : decide (65536 < (cts.length : Int)) = false := decide_eq_false l3
  have d4 : decide (65536 < (es.length : Int)) = false := decide_eq_false l4
  have d5 : decide (65536 < (ets.length : Int)) = false := decide_eq_false l5
  clear n1 n2 n3 n4 n5
  go_wp2_with fail
  refine (strBytes_any _ _ ss (by exact HA.out.2.1) (by omega)).mono ?_
  rintro e w2 ⟨t1, rfl, t10, t11, rfl⟩
  go_wp2_with fail
  refine (strBytes_any _ _ es (by exact HA.out.2.2.2.1) (by omega)).mono ?_
  rintro e w3 ⟨t2, rfl, t20, t21, rfl⟩
  by_cases ls : 1048576 < 2 * (xs.length : Int) + t1 + 16 * (ss.length : Int) + 8 * (cts.length : Int) + t2 + 16 * (es.length : Int) + 8 * (ets.length : Int)
  · go_wp2_with fail
    go_ret
    exact ⟨rfl, grown_refl _⟩
  have d6 : decide (1048576 < 2 * (xs.length : Int) + t1 + 16 * (ss.length : Int) + 8 * (cts.length : Int) + t2 + 16 * (es.length : Int) + 8 * (ets.length : Int)) = false := decide_eq_false ls
  -- the five clones
  go_wp2_with fail
  refine (cloneU16_any _ _ xs (by exact HA.out.1) (by omega)).mono ?_
  rintro e x1 ⟨u1, rfl, o1, g1⟩
  have HB : Hid (x1.ownsRow w3.heap.size 59 1 u1 xs.length (xs.map (Value.int .u16)) ∧ w3.grownBy x1 none) := ⟨o1, g1⟩
  clear o1 g1
  go_wp2_with fail
  refine (cloneStrs_any _ _ ss (by exact HA.out.2.1.1.grown HB.out.2) (by omega)).mono ?_
  rintro e x2 ⟨u2, rfl, o2, g2⟩
  obtain ⟨b2, k2, hu2⟩ := (SliceAt.own o2).form
  rw [List.length_map] at hu2
  subst hu2
  have HC : Hid (x2.ownsRow x1.heap.size 9 1 (.slice b2 ss.length k2) ss.length (ss.map Value.string) ∧ x1.grownBy x2 none ∧ w3.grownBy x2 none) := ⟨o2, g2, HB.out.2.trans g2⟩
  clear o2 g2
  go_wp2_with fail
  refine (cloneU64_any _ _ cts (by exact HA.out.2.2.1.grown HC.out.2.2) (by omega)).mono ?_
  rintro e x3 ⟨u3, rfl, o3, g3⟩
  have HD : Hid (x3.ownsRow x2.heap.size 32 1 u3 cts.length (cts.map (Value.int .u64)) ∧ x2.grownBy x3 none ∧ w3.grownBy x3 none) := ⟨o3, g3, HC.out.2.2.trans g3⟩
  clear o3 g3
  go_wp2_with fail
  refine (cloneStrs_any _ _ es (by exact HA.out.2.2.2.1.1.grown HD.out.2.2) (by omega)).mono ?_
  rintro e x4 ⟨u4, rfl, o4, g4⟩
  obtain ⟨b4, k4, hu4⟩ := (SliceAt.own o4).form
  rw [List.length_map] at hu4
  subst hu4
  have HE : Hid (x4.ownsRow x3.heap.size 9 1 (.slice b4 es.length k4) es.length (es.map Value.string) ∧ x3.grownBy x4 none ∧ w3.grownBy x4 none) := ⟨o4, g4, HD.out.2.2.trans g4⟩
  clear o4 g4
  go_wp2_with fail
  refine (cloneU64_any _ _ ets (by exact HA.out.2.2.2.2.1.grown HE.out.2.2) (by omega)).mono ?_
  rintro e x5 ⟨u5, rfl, o5, g5⟩
  have HS : Hid (SliceAt x5 u1 (xs.map (Value.int .u16)) ∧ StrsAt x5 (.slice b2 ss.length k2) ss ∧ SliceAt x5 u3 (cts.map (Value.int .u64)) ∧ StrsAt x5 (.slice b4 es.length k4) es ∧ SliceAt x5 u5 (ets.map (Value.int .u64)) ∧ w3.grownBy x5 none) :=
    ⟨(SliceAt.own HB.out.1).grown (((HC.out.2.1.trans HD.out.2.1).trans HE.out.2.1).trans g5), ⟨(SliceAt.own HC.out.1).grown ((HD.out.2.1.trans HE.out.2.1).trans g5), HA.out.2.1.2⟩, (SliceAt.own HD.out.1).grown (HE.out.2.1.trans g5), ⟨(SliceAt.own HE.out.1).grown g5, HA.out.2.2.2.1.2⟩, SliceAt.own o5, HE.out.2.2.trans g5⟩
  clear HB HC HD HE o5 g5
  -- the clocks
  go_wp2_with fail
  refine (buildMany_any _ n _ _ _ xs ss cts (by exact HS.out.1) (by exact HS.out.2.1) (by exact HS.out.2.2.1) (by omega) (by omega) (by omega) (by omega) HA.out.2.2.2.2.2.1 HA.out.2.2.2.2.2.2.1).mono ?_
  rintro e x6 ⟨rfl, N, hN, O, b, A, hck, hO, hAk, g6⟩
  have HK : Hid (Cks x6 x5.heap.size n N O b A ∧ x5.grownBy x6 none) := ⟨hck, g6⟩
  clear hck hAk g6 hO
  go_wp2_with fail
  refine (floor_any (O := O) (b := b) (A := A) (N := N) (by exact HK.out.1) (by omega) (by omega)).mono ?_
  rintro e x7 ⟨rfl, hmp, g7⟩
  have HF : Hid (MapOn x7 x6.heap.size N (.int .u64 0) (fun k => .int .u64 (floF A n k)) (fun k => decide (0 < floF A n k)) ∧ x6.grownBy x7 none ∧ x5.grownBy x7 none) := ⟨hmp, g7, HK.out.2.trans g7⟩
  clear hmp g7
  go_wp2_with fail
  refine (buildOne_any _ _ _ es ets (by exact HS.out.2.2.2.1.grown HF.out.2.2) (by exact HS.out.2.2.2.2.1.grown HF.out.2.2) (by omega) (by omega) HA.out.2.2.2.2.2.2.2).mono ?_
  rintro e x8 ⟨rfl, Oe, hOe, hclk, g8⟩
  rw [List.take_length] at hclk
  have hNe : (dotsOf es ets).length < 1000000 := by rw [dotsOf_length]; omega
  obtain ⟨Ne, hNe'⟩ : ∃ Ne, Ne = (dotsOf es ets).length := ⟨_, rfl⟩
  rw [← hNe'] at hclk hNe
  obtain ⟨E, hE⟩ : ∃ E, E = clkOf (dotsOf es ets) := ⟨_, rfl⟩
  rw [← hE] at hclk
  have HX : Hid (ClockOn x8 Oe x7.heap.size Ne E ∧ (∀ g, Oe g → x7.heap.size ≤ g) ∧ x7.grownBy x8 none ∧ x6.grownBy x8 none) := ⟨hclk, hOe, g8, HF.out.2.1.trans g8⟩
  clear hclk hOe g8 hNe' hE
  obtain ⟨W1, hmk, hf0, hs9⟩ := make_row x8 44 29 (.map none) 8 Try.underlying44 info29 (by omega) (moreRow b n x7.heap.size) (by rw [moreRow_length]; omega)
  have e1 : ((n + 1 : Nat) : Int) = (n : Int) + 1 := by omega
  rw [moreRow_length, e1] at hmk
  have H9 : Hid (Filled x8 29 (moreRow b n x7.heap.size) 0 W1) := hf0
  clear hf0 hs9 e1
  go_wp2_with fail
  clear hmk
  go_loopw [17] (fun s17 wr => ∃ k : Nat, s17 = .int .i64 k ∧ k ≤ n ∧ Filled x8 29 (moreRow b n x7.heap.size) k wr) (fun s17 _ => n - (intOf s17).toNat)
  case atStart => exact ⟨0, rfl, Nat.zero_le _, H9.out⟩
  case round =>
    obtain ⟨k, rfl, hk, hR⟩ := hrel
    have hck : Cks wr x5.heap.size n N O b A := (HK.out.1.grown HX.out.2.2.2).grown hR.gr
    have hkl : k < (moreRow b n x7.heap.size).length := by rw [moreRow_length]; omega
    obtain ⟨u, hu⟩ := hR.cell hkl
    have hfz := hR.frozen k
    have hst := hR.step hkl
    rw [moreRow_get] at hst
    have p2 : (k : Int) < (n : Int) + 1 := by omega
    have p3 : (k : Int) < ((n + 1 : Nat) : Int) := by omega
    by_cases hlt : k < n
    · rw [if_pos hlt] at hst
      have k1 : wr.cell? ⟨x5.heap.size, k, none⟩ = some (.map (some (b k))) := hck.cell k hlt
      have HT : Hid (Filled x8 29 (moreRow b n x7.heap.size) (k + 1) (wr.setCell ⟨x8.heap.size, k, none⟩ (.map (some (b k))))) := hst
      have p1 : (k : Int) < (n : Int) := by omega
      clear hst hck hR hkl
      go_wp2_with fail
      exact ⟨⟨k + 1, by go_num, by omega, HT.out⟩, by simp [intOf]; omega⟩
    · have hke : k = n := by omega
      subst hke
      rw [if_neg hlt] at hst
      have HT : Hid (Filled x8 29 (moreRow b k x7.heap.size) (k + 1) (wr.setCell ⟨x8.heap.size, k, none⟩ (.map (some x7.heap.size)))) := hst
      clear hst hck hR hkl
      go_wp2_with fail
      clear hu hfz p2 p3
      obtain ⟨z0, hz0⟩ : ∃ z, z = wr.setCell ⟨x8.heap.size, k, none⟩ (.map (some x7.heap.size)) := ⟨_, rfl⟩
      rw [← hz0] at HT ⊢
      clear hz0
      have hext := ((HK.out.1.grown HX.out.2.2.2).extend HX.out.1 (fun i g hi hg hg' => by have h1 := ((HK.out.1.grown HF.out.2.1).clk i hi).ltAt g hg; have h2 := HX.out.2.1 g hg'; omega) HT.out)
      obtain ⟨A', hA'⟩ : ∃ A' : Nat → Clk, A' = fun i => if i < k then A i else E := ⟨_, rfl⟩
      obtain ⟨O', hO'⟩ : ∃ O' : Nat → Nat → Prop, O' = fun i => if i < k then O i else Oe := ⟨_, rfl⟩
      obtain ⟨b', hb'⟩ : ∃ b' : Nat → Nat, b' = fun i => if i < k then b i else x7.heap.size := ⟨_, rfl⟩
      rw [← hA', ← hO', ← hb'] at hext
      have HM : Hid (Cks z0 x8.heap.size (k + 1) (N + Ne) O' b' A' ∧ (∀ q, 0 < k → floF A' (k + 1) q ≤ floF A k q) ∧ x8.grownBy z0 none) :=
        ⟨hext, fun q hk0 => floF_more A A' k q hk0 (fun i hi => by rw [hA']; simp [hi]), HT.out.gr⟩
      clear hext hA' hO' hb' HT H9
      refine (floor_any (O := O') (b := b') (A := A') (N := N + Ne) (by exact HM.out.1) (by omega) (by omega)).mono ?_
      rintro e z1 ⟨rfl, hmp, g9⟩
      obtain ⟨F, hF⟩ : ∃ F, F = floF A k := ⟨_, rfl⟩
      obtain ⟨G, hG⟩ : ∃ G, G = floF A' (k + 1) := ⟨_, rfl⟩
      obtain ⟨had, hhad⟩ : ∃ had : Bool, decide (0 < k) = had := ⟨_, rfl⟩
      have HQ : Hid ((MapOn z1 x6.heap.size N (.int .u64 0) (fun k => .int .u64 (F k)) (fun k => decide (0 < F k))) ∧ (MapOn z1 z0.heap.size (N + Ne) (.int .u64 0) (fun k => .int .u64 (G k)) (fun k => decide (0 < G k))) ∧ Cks z1 x8.heap.size (k + 1) (N + Ne) O' b' A' ∧
          (∀ q, (had = true → G q ≤ F q) ∧ 0 ≤ G q ∧ G q ≤ ((N + Ne : Nat) : Int) ∧ ∀ i, i < k + 1 → G q ≤ (A' i q).1) ∧ StrsAt z1 (.slice b2 ss.length k2) ss ∧ StrsAt z1 (.slice b4 es.length k4) es ∧ w3.grownBy z1 none) := by
        have g79 := (HX.out.2.2.1.trans HM.out.2.2).trans g9
        have g59 := HF.out.2.2.trans g79
        refine ⟨by rw [hF]; exact HF.out.1.grown g79, by rw [hG]; exact hmp, HM.out.1.grown g9, fun q => ⟨fun hh => ?_, ?_, ?_, ?_⟩, HS.out.2.1.grown g59, HS.out.2.2.2.1.grown g59, HS.out.2.2.2.2.2.trans g59⟩
        · rw [hh, decide_eq_true_iff] at hhad; rw [hF, hG]; exact HM.out.2.1 q hhad
        · rw [hG]; exact floF_pos A' (k + 1) q (fun i hi => HM.out.1.canon q i hi)
        · rw [hG]; exact HM.out.1.flo_le q
        · rw [hG]; exact fun i hi => floF_le A' (k + 1) q i hi
      clear hmp g9 hF hG HM HF HX HS HK
      have hmm := @run_makeMap Try.prog
      go_wp2_with fail
      clear hhad hmm
      have HI : Hid (L7 z1 z1.heap.size 0 (z1.alloc (.map #[] 0))) := ⟨0, fun _ => false, Nat.le_refl _, MapOn.made z1 (.bool false), World.grownBy_alloc _ _ none⟩
      go_loopw [21] (fun s21 wr => ∃ j : Nat, s21 = .int .i64 j ∧ j ≤ ss.length ∧ L7 z1 z1.heap.size j wr) (fun s21 _ => ss.length - (intOf s21).toNat)
      case atStart => exact ⟨0, rfl, Nat.zero_le _, HI.out⟩
      case round =>
        obtain ⟨j, rfl, hj, M, dom, hM, hmp, hgr⟩ := hrel
        have HR : Hid (MapOn wr z1.heap.size M (.bool false) (fun k => .bool (dom k)) dom ∧ z1.grownBy wr none) := ⟨hmp, hgr⟩
        clear hmp hgr
        by_cases hlt : j < ss.length
        · obtain ⟨e1, f1, s, rfl, hb1, hcl1, hss, hsz⟩ := (HQ.out.2.2.2.2.1).cell j hlt
          have k1 : wr.cell? ⟨e1, f1 + j, none⟩ = some (.string s) := by rw [World.cell?_of_block (w := z1) (a := ⟨e1, f1 + j, none⟩) (HR.out.2.block e1 hb1 (by simp))]; exact hcl1
          have p1 : (j : Int) < (ss.length : Int) := by omega
          have lk := HR.out.1.look Try.underlying49 (Try.zeroValue4 wr) s hsz
          clear hcl1 hss
          by_cases hmem : dom s.data.toList = true
          · simp only [hmem] at lk
            go_wp2_with fail
            exact ⟨⟨j + 1, by go_num, by omega, M, dom, by omega, HR.out.1, HR.out.2⟩, by simp [intOf]; omega⟩
          · have hmem' : dom s.data.toList = false := by simpa using hmem
            simp only [hmem'] at lk
            obtain ⟨Y1, hup1, gY1, hmY1⟩ := HR.out.1.put Try.underlying49 (by unfold maxLen; omega) s hsz (.bool true)
            have HU : Hid (MapOn Y1 z1.heap.size (M + 1) (.bool false) (fun k => .bool (if k = s.data.toList then true else dom k)) (fun k => if k = s.data.toList then true else dom k) ∧ z1.grownBy Y1 none) :=
              ⟨hmY1.congr (fun k => by split <;> rfl) (fun k => rfl), HR.out.2.andThen gY1 (fun i hi => by cases hi; exact .inl (Nat.le_refl _))⟩
            clear hmY1 gY1
            go_wp2_with fail
            refine (check_any (O := O') (b := b') (A := A') (N := N + Ne) (F := F) (G := G) (by exact HQ.out.1.grown HU.out.2) (by exact HQ.out.2.1.grown HU.out.2) (by exact HQ.out.2.2.1.grown HU.out.2) (by omega) (by omega) s hsz had (HQ.out.2.2.2.1 _).1 (HQ.out.2.2.2.1 _).2.1 (HQ.out.2.2.2.1 _).2.2.1 (HQ.out.2.2.2.1 _).2.2.2).mono ?_
            rintro e Y2 ⟨rfl, gY2⟩
            go_wp2_with fail
            exact ⟨⟨j + 1, by go_num, by omega, M + 1, _, by omega, HU.out.1.grown gY2, HU.out.2.trans gY2⟩, by simp [intOf]; omega⟩
        · have hjs : M ≤ ss.length := by omega
          obtain ⟨y5, hy5⟩ : ∃ y, y = wr := ⟨_, rfl⟩
          subst hy5
          go_wp2_with fail
          go_loopw [23] (fun s23 wr => ∃ j : Nat, s23 = .int .i64 j ∧ j ≤ es.length ∧ L7 z1 z1.heap.size (ss.length + j) wr) (fun s23 _ => es.length - (intOf s23).toNat)
          case atStart => exact ⟨0, rfl, Nat.zero_le _, M, dom, hjs, HR.out.1, HR.out.2⟩
          case round =>
            clear HR hM
            obtain ⟨j, rfl, hj, M, dom, hM, hmp, hgr⟩ := hrel
            have HR : Hid (MapOn wr z1.heap.size M (.bool false) (fun k => .bool (dom k)) dom ∧ z1.grownBy wr none) := ⟨hmp, hgr⟩
            clear hmp hgr
            by_cases hlt : j < es.length
            · obtain ⟨e1, f1, s, rfl, hb1, hcl1, hss, hsz⟩ := (HQ.out.2.2.2.2.2.1).cell j hlt
              have k1 : wr.cell? ⟨e1, f1 + j, none⟩ = some (.string s) := by rw [World.cell?_of_block (w := z1) (a := ⟨e1, f1 + j, none⟩) (HR.out.2.block e1 hb1 (by simp))]; exact hcl1
              have p1 : (j : Int) < (es.length : Int) := by omega
              have lk := HR.out.1.look Try.underlying49 (Try.zeroValue4 wr) s hsz
              clear hcl1 hss
              by_cases hmem : dom s.data.toList = true
              · simp only [hmem] at lk
                go_wp2_with fail
                exact ⟨⟨j + 1, by go_num, by omega, M, dom, by omega, HR.out.1, HR.out.2⟩, by simp [intOf]; omega⟩
              · have hmem' : dom s.data.toList = false := by simpa using hmem
                simp only [hmem'] at lk
                obtain ⟨Y1, hup1, gY1, hmY1⟩ := HR.out.1.put Try.underlying49 (by unfold maxLen; omega) s hsz (.bool true)
                have HU : Hid (MapOn Y1 z1.heap.size (M + 1) (.bool false) (fun k => .bool (if k = s.data.toList then true else dom k)) (fun k => if k = s.data.toList then true else dom k) ∧ z1.grownBy Y1 none) :=
                  ⟨hmY1.congr (fun k => by split <;> rfl) (fun k => rfl), HR.out.2.andThen gY1 (fun i hi => by cases hi; exact .inl (Nat.le_refl _))⟩
                clear hmY1 gY1
                go_wp2_with fail
                refine (check_any (O := O') (b := b') (A := A') (N := N + Ne) (F := F) (G := G) (by exact HQ.out.1.grown HU.out.2) (by exact HQ.out.2.1.grown HU.out.2) (by exact HQ.out.2.2.1.grown HU.out.2) (by omega) (by omega) s hsz had (HQ.out.2.2.2.1 _).1 (HQ.out.2.2.2.1 _).2.1 (HQ.out.2.2.2.1 _).2.2.1 (HQ.out.2.2.2.1 _).2.2.2).mono ?_
                rintro e Y2 ⟨rfl, gY2⟩
                go_wp2_with fail
                exact ⟨⟨j + 1, by go_num, by omega, M + 1, _, by omega, HU.out.1.grown gY2, HU.out.2.trans gY2⟩, by simp [intOf]; omega⟩
            · go_wp2_with fail
              go_ret
              exact ⟨rfl, HQ.out.2.2.2.2.2.2.trans HR.out.2⟩
end Go.Proofs.Qxb6000536a.ck
