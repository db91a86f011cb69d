import Derived.Test.Qxb6000536aPrefix
import Derived.Test.Qxb6000536aFloor
import Derived.Test.Qxb6000536aMany
namespace Go.Proofs.Qxb6000536a.ck
open Go.RowKit Go.Lib Go.Maps
set_option linter.unusedVariables false

theorem u16_both {x : Int} (h : (Lit.int .u16 x).wf = true) : 0 ≤ x ∧ x < 65536 := by
  have h' : IntKind.u16.min ≤ x ∧ x ≤ IntKind.u16.max := by simpa [Lit.wf] using h
  exact ⟨Int.le_trans (by decide) h'.1, Int.lt_of_le_of_lt h'.2 (by decide)⟩

def keysOf (ss : List ByteArray) : List Key := ss.map fun s => s.data.toList
theorem keysOf_length (ss : List ByteArray) : (keysOf ss).length = ss.length := by simp [keysOf]
/-- The key k stands among the first j. -/
def among (ss : List ByteArray) (j : Nat) (k : Key) : Bool := decide (k ∈ (keysOf ss).take j)
theorem among_step (ss : List ByteArray) (j : Nat) (h : j < ss.length) (k : Key) : among ss (j + 1) k = (if k = ss[j].data.toList then true else among ss j k) := by
  have e : (keysOf ss).take (j + 1) = (keysOf ss).take j ++ [ss[j].data.toList] := by
    rw [List.take_succ_eq_append_getElem (by rw [keysOf_length]; exact h)]; simp [keysOf]
  unfold among
  rw [e]
  by_cases c : k = ss[j].data.toList <;> simp [c]
theorem among_all (ss : List ByteArray) (k : Key) : among ss ss.length k = true ↔ ∃ s ∈ ss, k = s.data.toList := by
  unfold among
  rw [← keysOf_length, List.take_length, decide_eq_true_iff]
  simp [keysOf, eq_comm]

/-- In the middle of the law's loop: memo and named. -/
def L5 (x : World) (ss : List ByteArray) (F : Key → Int) (mb nb j : Nat) (wr : World) : Prop :=
  ∃ M1 M2, M1 ≤ j ∧ M2 ≤ j ∧ MapOn wr mb M1 (.bool false) (fun k => .bool (among ss j k)) (among ss j) ∧
    MapOn wr nb M2 (.bool false) (fun k => .bool (among ss j k && decide (0 < F k))) (fun k => among ss j k && decide (0 < F k)) ∧ x.grownBy wr none

set_option maxHeartbeats 4000000 in
set_option maxRecDepth 100000 in
theorem law5 (w : World) (nc : Int) (v1 v2 v3 : Value) (xs : List Int) (ss : List ByteArray) (cts : List Int)
    (h1 : SliceAt w v1 (xs.map (Value.int .u16))) (h2 : StrsAt w v2 ss) (h3 : SliceAt w v3 (cts.map (Value.int .u64)))
    (n1 : xs.length ≤ 9223372036854775807) (n2 : ss.length ≤ 9223372036854775807) (n3 : cts.length ≤ 9223372036854775807)
    (hx : ∀ c ∈ xs, 0 ≤ c ∧ c < 65536) (hc : ∀ c ∈ cts, c < 18446744073709551616) :
    Calls Try.prog 5 #[.int .i64 nc, v1, v2, v3] w (TrueG w) := by
  have Z := zz18 w nc v1 (xs.map (Value.int .u16)) h1 (by simpa using n1) v2 ss h2 n2 v3 (cts.map (Value.int .u64)) h3 (by simpa using n3)
  have HZ : Hid (Calls Try.prog 18 #[.int .i64 nc, v1, v2, v3] w (SomeBool w)) := Z
  clear Z
  obtain ⟨a1, c1, hv1⟩ := h1.form
  obtain ⟨a2, c2, hv2⟩ := h2.1.form
  obtain ⟨a3, c3, hv3⟩ := h3.form
  rw [List.length_map] at hv1 hv2 hv3
  subst hv1 hv2 hv3
  have HA : Hid (SliceAt w (.slice a1 xs.length c1) (xs.map (Value.int .u16)) ∧ StrsAt w (.slice a2 ss.length c2) ss ∧ SliceAt w (.slice a3 cts.length c3) (cts.map (Value.int .u64)) ∧ (∀ c ∈ xs, 0 ≤ c ∧ c < 65536) ∧ ∀ c ∈ cts, c < 18446744073709551616) := ⟨h1, h2, h3, hx, hc⟩
  clear h1 h2 h3 hx hc
  go_enter Try.func5, Try.ntmps5
  go_wp2_with fail
  refine HZ.out.mono ?_
  rintro e w' ⟨r, rfl, rfl⟩
  cases r
  · go_wp2_with fail
    go_ret
    exact ⟨rfl, grown_refl _⟩
  clear HZ
  by_cases l0 : nc < 0
  · go_wp2_with fail
    go_ret
    exact ⟨rfl, grown_refl _⟩
  by_cases l00 : 1024 < nc
  · go_wp2_with fail
    go_ret
    exact ⟨rfl, grown_refl _⟩
  by_cases l1 : 65536 < (xs.length : Int)
  · go_wp2_with fail
    go_ret
    exact ⟨rfl, grown_refl _⟩
  by_cases l2 : 65536 < (ss.length : Int)
  · go_wp2_with fail
    go_ret
    exact ⟨rfl, grown_refl _⟩
  by_cases l3 : 65536 < (cts.length : Int)
  · go_wp2_with fail
    go_ret
    exact ⟨rfl, grown_refl _⟩
  obtain ⟨n, rfl⟩ : ∃ n : Nat, nc = n := ⟨nc.toNat, by omega⟩
  have d0 : decide ((n : Int) < 0) = false := decide_eq_false l0
  have d00 : decide (1024 < (n : Int)) = false := decide_eq_false l00
  have d1 : decide (65536 < (xs.length : Int)) = false := decide_eq_false l1
  have d2 : decide (65536 < (ss.length : Int)) = false := decide_eq_false l2
  have d3 : decide (65536 < (cts.length : Int)) = false := decide_eq_false l3
  clear n1 n2 n3
  go_wp2_with fail
  refine (strBytes_any _ _ ss (by exact HA.out.2.1) (by omega)).mono ?_
  rintro e w3 ⟨t1, rfl, t10, t11, rfl⟩
  by_cases ls : 1048576 < 2 * (xs.length : Int) + t1 + 16 * (ss.length : Int) + 8 * (cts.length : Int)
  · go_wp2_with fail
    go_ret
    exact ⟨rfl, grown_refl _⟩
  have d5 : decide (1048576 < 2 * (xs.length : Int) + t1 + 16 * (ss.length : Int) + 8 * (cts.length : Int)) = false := decide_eq_false ls
  -- the three clones
  go_wp2_with fail
  refine (cloneU16_any _ _ xs (by exact HA.out.1) (by omega)).mono ?_
  rintro e x1 ⟨u1, rfl, o1, g1⟩
  have HB : Hid (x1.ownsRow w3.heap.size 59 1 u1 xs.length (xs.map (Value.int .u16)) ∧ w3.grownBy x1 none) := ⟨o1, g1⟩
  clear o1 g1
  go_wp2_with fail
  refine (cloneStrs_any _ _ ss (by exact HA.out.2.1.1.grown HB.out.2) (by omega)).mono ?_
  rintro e x2 ⟨u2, rfl, o2, g2⟩
  obtain ⟨b2, k2, hu2⟩ := (SliceAt.own o2).form
  rw [List.length_map] at hu2
  subst hu2
  have HC : Hid (x2.ownsRow x1.heap.size 9 1 (.slice b2 ss.length k2) ss.length (ss.map Value.string) ∧ x1.grownBy x2 none) := ⟨o2, g2⟩
  clear o2 g2
  go_wp2_with fail
  refine (cloneU64_any _ _ cts (by exact (HA.out.2.2.1.grown HB.out.2).grown HC.out.2) (by omega)).mono ?_
  rintro e x4 ⟨u4, rfl, o4, g4⟩
  obtain ⟨b4, k4, hu4⟩ := (SliceAt.own o4).form
  rw [List.length_map] at hu4
  subst hu4
  have HE : Hid (x4.ownsRow x2.heap.size 32 1 (.slice b4 cts.length k4) cts.length (cts.map (Value.int .u64)) ∧ x2.grownBy x4 none) := ⟨o4, g4⟩
  clear o4 g4
  have HS : Hid (SliceAt x4 u1 (xs.map (Value.int .u16)) ∧ StrsAt x4 (.slice b2 ss.length k2) ss ∧ SliceAt x4 (.slice b4 cts.length k4) (cts.map (Value.int .u64)) ∧ w3.grownBy x4 none) :=
    ⟨((SliceAt.own HB.out.1).grown HC.out.2).grown HE.out.2, ⟨(SliceAt.own HC.out.1).grown HE.out.2, HA.out.2.1.2⟩, SliceAt.own HE.out.1, (HB.out.2.trans HC.out.2).trans HE.out.2⟩
  clear HB HC HE
  -- the clocks
  go_wp2_with fail
  refine (buildMany_any _ n _ _ _ xs ss cts (by exact HS.out.1) (by exact HS.out.2.1) (by exact HS.out.2.2.1) (by omega) (by omega) (by omega) (by omega) HA.out.2.2.2.1 HA.out.2.2.2.2).mono ?_
  rintro e x5 ⟨rfl, N, hN, O, b, A, hck, hO, hAk, g5⟩
  have HK : Hid (Cks x5 x4.heap.size n N O b A ∧ (∀ i k, A i k ≠ (0, []) → ∃ s ∈ ss, k = s.data.toList) ∧ x4.grownBy x5 none) := ⟨hck, hAk, g5⟩
  clear hck hAk g5 hO
  go_wp2_with fail
  by_cases hn0 : n = 0
  · subst hn0
    refine (floor_none _ _ _).mono ?_
    rintro e x6 ⟨rfl, hmp, g6⟩
    obtain ⟨q, hlen, hq, _⟩ := hmp.len Try.underlying47
    obtain rfl : q = 0 := by omega
    have HG : Hid (x5.grownBy x6 none) := g6
    clear hmp g6 hq
    go_wp2_with fail
    go_ret
    exact ⟨rfl, (HS.out.2.2.2.trans HK.out.2.2).trans HG.out⟩
  refine (floor_some (O := O) (b := b) (A := A) (N := N) (by exact HK.out.1) (by omega) (by omega) (by omega)).mono ?_
  rintro e x6 ⟨rfl, hmp, g6⟩
  have hd : ((n : Int) == 0) = false := by simp; omega
  have hmm := @run_makeMap Try.prog
  obtain ⟨F, hF⟩ : ∃ F, F = floF A n := ⟨_, rfl⟩
  rw [← hF] at hmp
  have HF : Hid (MapOn x6 x5.heap.size N (.int .u64 0) (fun k => .int .u64 (F k)) (fun k => decide (0 < F k)) ∧ Cks x6 x4.heap.size n N O b A ∧ F = floF A n ∧ (∀ k, 0 ≤ F k ∧ F k ≤ N) ∧ (∀ k, 0 < F k → ∃ s ∈ ss, k = s.data.toList) ∧ x5.grownBy x6 none ∧ x5.heap.size < x6.heap.size) := by
    refine ⟨hmp, HK.out.1.grown g6, hF, fun k => ?_, fun k hk => HK.out.2.1 0 k (fun e => ?_), g6, hmp.lt⟩
    · rw [hF]; exact ⟨floF_pos A n k (fun i hi => HK.out.1.canon k i hi), HK.out.1.flo_le k⟩
    · have := floF_le A n k 0 (by omega)
      rw [e, ← hF] at this
      simp only at this
      omega
  clear hmp g6 hF
  go_wp2_with fail
  have H0 : Hid (L5 x6 ss F x6.heap.size (x6.heap.size + 1) 0 ((x6.alloc (.map #[] 0)).alloc (.map #[] 0))) := by
    have e1 : (x6.alloc (.map #[] 0)).heap.size = x6.heap.size + 1 := by simp
    have h2 := MapOn.made (x6.alloc (.map #[] 0)) (.bool false)
    rw [e1] at h2
    exact ⟨0, 0, Nat.le_refl _, Nat.le_refl _, (((MapOn.made x6 (.bool false)).grown (World.grownBy_alloc _ _ none)).congr (fun k => by simp [among]) (fun k => by simp [among])), (h2.congr (fun k => by simp [among]) (fun k => by simp [among])), (World.grownBy_alloc _ _ none).trans (World.grownBy_alloc _ _ none)⟩
  clear hmm hd
  go_loopw [13] (fun s13 wr => ∃ j : Nat, s13 = .int .i64 j ∧ j ≤ ss.length ∧ L5 x6 ss F x6.heap.size (x6.heap.size + 1) j wr) (fun s13 _ => ss.length - (intOf s13).toNat)
  case atStart => exact ⟨0, rfl, Nat.zero_le _, H0.out⟩
  case round =>
    obtain ⟨j, rfl, hj, M1, M2, hM1, hM2, hm1, hm2, hg⟩ := hrel
    have HR : Hid (MapOn wr x6.heap.size M1 (.bool false) (fun k => .bool (among ss j k)) (among ss j) ∧ MapOn wr (x6.heap.size + 1) M2 (.bool false) (fun k => .bool (among ss j k && decide (0 < F k))) (fun k => among ss j k && decide (0 < F k)) ∧ x6.grownBy wr none) := ⟨hm1, hm2, hg⟩
    by_cases hlt : j < ss.length
    · obtain ⟨e1, f1, s, rfl, hb1, hcl1, hss, hsz⟩ := HS.out.2.1.cell j hlt
      have k1 : wr.cell? ⟨e1, f1 + j, none⟩ = some (.string s) := by
        rw [World.cell?_of_block (w := x6) (a := ⟨e1, f1 + j, none⟩) (hg.block e1 (by have := HK.out.2.2.size; have := HF.out.2.2.2.2.2.1.size; omega) (by simp)),
          World.cell?_of_block (w := x5) (a := ⟨e1, f1 + j, none⟩) (HF.out.2.2.2.2.2.1.block e1 (by have := HK.out.2.2.size; omega) (by simp)), World.cell?_of_block (w := x4) (a := ⟨e1, f1 + j, none⟩) (HK.out.2.2.block e1 hb1 (by simp))]
        exact hcl1
      have HD : Hid (∀ k, among ss (j + 1) k = (if k = s.data.toList then true else among ss j k)) := fun k => by rw [hss]; exact among_step ss j hlt k
      have p1 : (j : Int) < (ss.length : Int) := by omega
      have lk := hm1.look Try.underlying49 (Try.zeroValue4 wr) s hsz
      clear hcl1 hss hm1 hm2 hg
      by_cases hmem : among ss j s.data.toList = true
      · simp only [hmem] at lk
        have HE : Hid (L5 x6 ss F x6.heap.size (x6.heap.size + 1) (j + 1) wr) := by
          have e : ∀ k, among ss j k = among ss (j + 1) k := fun k => by
            rw [HD.out k]
            by_cases c : k = s.data.toList
            · rw [if_pos c, c, hmem]
            · rw [if_neg c]
          exact ⟨M1, M2, by omega, by omega, HR.out.1.congr (fun k => by rw [e k]) e, HR.out.2.1.congr (fun k => by rw [e k]) (fun k => by rw [e k]), HR.out.2.2⟩
        go_wp2_with fail
        exact ⟨⟨j + 1, by go_num, by omega, HE.out⟩, by simp [intOf]; omega⟩
      · have hmem' : among ss j s.data.toList = false := by simpa using hmem
        simp only [hmem'] at lk
        obtain ⟨W1, hup1, gW1, hmW1⟩ := HR.out.1.put Try.underlying49 (by unfold maxLen; omega) s hsz (.bool true)
        have H1 : Hid (MapOn W1 x6.heap.size (M1 + 1) (.bool false) (fun k => if k = s.data.toList then .bool true else .bool (among ss j k)) (fun k => if k = s.data.toList then true else among ss j k) ∧ MapOn W1 (x6.heap.size + 1) M2 (.bool false) (fun k => .bool (among ss j k && decide (0 < F k))) (fun k => among ss j k && decide (0 < F k)) ∧ x6.grownBy W1 none) :=
          ⟨hmW1, HR.out.2.1.kept gW1 (by simp), HR.out.2.2.andThen gW1 (fun i hi => by cases hi; exact .inl (Nat.le_refl _))⟩
        clear hmW1 gW1
        go_wp2_with fail
        clear lk hup1
        refine (prefixAll_any (O := O) (b := b) (A := A) (N := N) (by exact HF.out.2.1.grown H1.out.2.2) (by omega) (by omega) (by omega) s hsz cts.length (by omega) (by have := HF.out.2.2.2.1 s.data.toList; rw [HF.out.2.2.1] at this; omega)).mono ?_
        rintro e w2 ⟨rfl, hg2⟩
        rw [← HF.out.2.2.1]
        have H2 : Hid (MapOn w2 x6.heap.size (M1 + 1) (.bool false) (fun k => if k = s.data.toList then .bool true else .bool (among ss j k)) (fun k => if k = s.data.toList then true else among ss j k) ∧ MapOn w2 (x6.heap.size + 1) M2 (.bool false) (fun k => .bool (among ss j k && decide (0 < F k))) (fun k => among ss j k && decide (0 < F k)) ∧ x6.grownBy w2 none) :=
          ⟨H1.out.1.grown hg2, H1.out.2.1.grown hg2, H1.out.2.2.trans hg2⟩
        clear hg2
        have lkf := (HF.out.1.grown H2.out.2.2).lookOk Try.underlying47 (Try.zeroValue32 w2) s hsz
        by_cases hpos : 0 < F s.data.toList
        · simp only [decide_eq_true hpos] at lkf
          obtain ⟨W3, hup3, gW3, hmW3⟩ := H2.out.2.1.put Try.underlying49 (by unfold maxLen; omega) s hsz (.bool true)
          have HE : Hid (L5 x6 ss F x6.heap.size (x6.heap.size + 1) (j + 1) W3) := by
            refine ⟨M1 + 1, M2 + 1, by omega, by omega, (H2.out.1.kept gW3 (by simp)).congr (fun k => ?_) (fun k => by rw [HD.out k]), hmW3.congr (fun k => ?_) (fun k => ?_), H2.out.2.2.andThen gW3 (fun i hi => by cases hi; exact .inl (Nat.le_succ _))⟩
            · rw [HD.out k]; split <;> rfl
            · rw [HD.out k]
              by_cases c : k = s.data.toList
              · rw [if_pos c, if_pos c, c, decide_eq_true hpos]; rfl
              · rw [if_neg c, if_neg c]
            · rw [HD.out k]
              by_cases c : k = s.data.toList
              · rw [if_pos c, if_pos c, c, decide_eq_true hpos]; rfl
              · rw [if_neg c, if_neg c]
          clear hmW3 gW3
          go_wp2_with fail
          exact ⟨⟨j + 1, by go_num, by omega, HE.out⟩, by simp [intOf]; omega⟩
        · simp only [decide_eq_false hpos] at lkf
          have HE : Hid (L5 x6 ss F x6.heap.size (x6.heap.size + 1) (j + 1) w2) := by
            refine ⟨M1 + 1, M2, by omega, by omega, H2.out.1.congr (fun k => ?_) (fun k => by rw [HD.out k]), H2.out.2.1.congr (fun k => ?_) (fun k => ?_), H2.out.2.2⟩
            · rw [HD.out k]; split <;> rfl
            · rw [HD.out k]
              by_cases c : k = s.data.toList
              · rw [if_pos c, c, decide_eq_false hpos, Bool.and_false, Bool.and_false]
              · rw [if_neg c]
            · rw [HD.out k]
              by_cases c : k = s.data.toList
              · rw [if_pos c, c, decide_eq_false hpos, Bool.and_false, Bool.and_false]
              · rw [if_neg c]
          go_wp2_with fail
          exact ⟨⟨j + 1, by go_num, by omega, HE.out⟩, by simp [intOf]; omega⟩
    · have hje : j = ss.length := by omega
      obtain ⟨q1, ln1, _, ks1, nd1, kl1, km1⟩ := (HF.out.1.grown hg).len Try.underlying47
      obtain ⟨q2, ln2, _, ks2, nd2, kl2, km2⟩ := hm2.len Try.underlying49
      obtain rfl : q1 = q2 := by
        rw [← kl1, ← kl2]
        refine same_len nd1 nd2 fun k => ?_
        rw [km1, km2, decide_eq_true_iff, Bool.and_eq_true, decide_eq_true_iff, hje, among_all]
        exact ⟨fun h => ⟨HF.out.2.2.2.2.1 k h, h⟩, fun h => h.2⟩
      clear hje hm1 hm2 hg nd1 nd2 kl1 kl2 km1 km2
      go_wp2_with fail
      go_ret
      exact ⟨rfl, ((HS.out.2.2.2.trans HK.out.2.2).trans HF.out.2.2.2.2.2.1).trans HR.out.2.2⟩
end Go.Proofs.Qxb6000536a.ck
