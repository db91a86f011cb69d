import Derived.Test.Qxb6000536aMem
namespace Go.Proofs.Qxb6000536a.ck
open Go.RowKit Go.Lib

theorem addr_add (b o j : Nat) : (⟨b, o, none⟩ : Addr).add j = ⟨b, o + j, none⟩ := by unfold Addr.add; split <;> simp_all

theorem frozen_row {w : World} {g : Nat} {cur : Array Value} {t : TypeId} (h : w.heap[g]? = some (.cells cur t (0, 0))) (j : Nat) : w.frozen? ⟨g, j, none⟩ = false := by
  simp [World.frozen?, h]
theorem shape_row {w : World} {g : Nat} {cur : Array Value} {t : TypeId} {fr : Nat × Nat} (h : w.heap[g]? = some (.cells cur t fr)) : w.shape? g = some (t, cur.size) := by
  simp [World.shape?, h]

/-- cs laid over L from place o on. -/
def lay (L : List Value) (o : Nat) (cs : List Value) : List Value := L.take o ++ cs ++ L.drop (o + cs.length)
theorem lay_length (L : List Value) (o : Nat) (cs : List Value) (h : o + cs.length ≤ L.length) : (lay L o cs).length = L.length := by simp [lay]; omega

/-- The two copies of an insertion in place: what the row holds behind them. -/
theorem lay_insert (L : List Value) (X : List Value) (n i : Nat) (x : Value) (hi : i ≤ n) (hl : n + 1 ≤ L.length) (hX : L.take n = X) :
    (lay (lay L (i + 1) (X.drop i)) i [x]).take (n + 1) = X.take i ++ x :: X.drop i := by
  have hXl : X.length = n := by rw [← hX]; simp; omega
  have h1 : (lay L (i + 1) (X.drop i)).take i = X.take i := by
    unfold lay
    rw [List.append_assoc, List.take_append_of_le_length (by simp; omega), List.take_take, ← hX, List.take_take]
    congr 1; omega
  have h2 : ((lay L (i + 1) (X.drop i)).drop (i + 1)).take (n - i) = X.drop i := by
    unfold lay
    rw [List.append_assoc, List.drop_append_of_le_length (by simp; omega), List.drop_of_length_le (by simp; omega), List.nil_append, List.take_append_of_le_length (by simp [hXl]),
      List.take_of_length_le (by simp [hXl])]
  unfold lay at h1 h2 ⊢
  generalize (L.take (i + 1) ++ X.drop i ++ L.drop (i + 1 + (X.drop i).length)) = M at h1 h2
  rw [h1, List.append_assoc, List.take_append, List.take_of_length_le (by simp [hXl]; omega)]
  congr 1
  have : (n + 1 - (X.take i).length) = (n - i) + 1 := by simp [hXl]; omega
  rw [this]
  simpa using h2

set_option maxHeartbeats 4000000 in
set_option maxRecDepth 100000 in
/-- slices.Insert: there is room, i < len(s): in place. -/
theorem insert_shift (g n cap i vb : Nat) (cur : Array Value) (X : List Value) (x : Int) (w : World) (hi : i < n) (hroom : n + 1 ≤ cap) (hcm : cap ≤ 9223372036854775807) (hne : vb ≠ g)
    (hg : w.heap[g]? = some (.cells cur 32 (0, 0))) (hcs : cur.size = cap) (hX : cur.toList.take n = X) (h1 : ∀ u ∈ X, u.oneCell' = true)
    (hvb : w.heap[vb]? = some (.cells #[.int .u64 x] 32 (0, 0))) :
    Calls Try.prog 27 #[.slice (some ⟨g, 0, none⟩) n cap, .int .i64 i, .slice (some ⟨vb, 0, none⟩) 1 1] w fun e w' =>
      e = .returned (.slice (some ⟨g, 0, none⟩) (n + 1) cap) ∧ ∃ C : Array Value, w' = w.drew.setRow g C ∧ C.size = cap ∧ C.toList.take (n + 1) = X.take i ++ .int .u64 x :: X.drop i := by
  have hXl : X.length = n := by rw [← hX]; simp; omega
  have hdl : (X.drop i).length = n - i := by simp [hXl]
  have hov : ∀ lb cb, (callFunc 33 #[.slice (some ⟨vb, 0, none⟩) 1 1, .slice (some ⟨g, i + 1, none⟩) lb cb]).run Try.prog w = .ok (.value (.bool false)) w := fun lb cb => by
    rw [run_callFunc_extern Try.func33 (by kernel_rfl) (by kernel_rfl) (by kernel_rfl) (e := Extern.SlicesOverlaps.overlaps #[23, 23] #[4]) (by kernel_rfl),
      Lib.run_overlaps_apart w 23 4 32 Try.underlying23 1 Try.sizeOf32 ⟨vb, 0, none⟩ ⟨g, i + 1, none⟩ 1 1 lb cb hne 32 32 1 cap (shape_row hvb) (by rw [shape_row hg, hcs]) (by omega) (frozen_row hvb 0) (frozen_row hvb 1)]
    rfl
  obtain ⟨C1, hC1⟩ : ∃ C1 : Array Value, C1 = (lay cur.toList (i + 1) (X.drop i)).toArray := ⟨_, rfl⟩
  have hcp1 : ∀ ty dc sc, (Builtin.copy_ #[23, 23] ty #[.slice (some ⟨g, i + 1, none⟩) (n - i) dc, .slice (some ⟨g, i, none⟩) (n + 1 - i) sc]).run Try.prog w.drew = .ok (goInt (X.drop i).length) (w.drew.setRow g C1) := fun ty dc sc => by
    rw [hC1]
    refine run_copy_row Try.prog w.drew 23 23 ty 32 g (i + 1) (n - i) dc ⟨g, i, none⟩ (n + 1 - i) sc cur 32 (X.drop i) Try.underlying23 size32 hg (by rw [hdl]; simp only [Nat.min_def]; split <;> omega) ?_ (by rw [hdl]; omega) (fun v hv => h1 v (List.mem_of_mem_drop hv))
    intro j v hj
    rw [addr_add]
    show w.cell? _ = _
    rw [cell_of_row w g _ cur 32 (0, 0) hg]
    rw [List.getElem?_drop, ← hX, List.getElem?_take] at hj
    split at hj
    · simpa using hj
    · simp at hj
  obtain ⟨W1, hW1⟩ : ∃ W1, W1 = w.drew.setRow g C1 := ⟨_, rfl⟩
  have hg1 : W1.heap[g]? = some (.cells C1 32 (0, 0)) := by rw [hW1]; exact setRow_heap w.drew g cur C1 32 (0, 0) hg
  have hC1s : C1.size = cap := by rw [hC1, List.size_toArray, lay_length _ _ _ (by simp [hdl]; omega)]; simpa using hcs
  obtain ⟨C2, hC2⟩ : ∃ C2 : Array Value, C2 = (lay C1.toList i [.int .u64 x]).toArray := ⟨_, rfl⟩
  have hcp2 : ∀ ty dc, (Builtin.copy_ #[23, 23] ty #[.slice (some ⟨g, i, none⟩) (n + 1 - i) dc, .slice (some ⟨vb, 0, none⟩) 1 1]).run Try.prog W1 = .ok (goInt 1) (W1.setRow g C2) := fun ty dc => by
    rw [hC2]
    refine run_copy_row Try.prog W1 23 23 ty 32 g i (n + 1 - i) dc ⟨vb, 0, none⟩ 1 1 C1 32 [.int .u64 x] Try.underlying23 size32 hg1 (by simp only [Nat.min_def, List.length_cons, List.length_nil]; split <;> omega) ?_ (by simp; omega) (by simp [Value.oneCell'])
    intro j v hj
    rw [addr_add, hW1]
    have hb : (w.drew.setRow g C1).heap[vb]? = some (.cells #[.int .u64 x] 32 (0, 0)) := by rw [setRow_other w.drew g vb C1 hne]; exact hvb
    rw [cell_of_row _ vb _ _ 32 (0, 0) hb]
    simpa using hj
  have hend : C2.size = cap ∧ C2.toList.take (n + 1) = X.take i ++ .int .u64 x :: X.drop i := by
    refine ⟨by rw [hC2, List.size_toArray, lay_length _ _ _ (by simp; omega)]; simpa using hC1s, ?_⟩
    rw [hC2, hC1]
    exact lay_insert cur.toList X n i _ (by omega) (by simp; omega) hX
  have hset : W1.setRow g C2 = w.drew.setRow g C2 := by
    rw [hW1]
    unfold World.setRow
    simp only [World.mk.injEq, and_true]
    apply Array.ext_getElem?
    intro k
    simp only [Array.getElem?_modify]
    split
    · cases w.drew.heap[k]? with
      | none => rfl
      | some o => cases o <;> rfl
    · rfl
  have HE : Hid (C2.size = cap ∧ C2.toList.take (n + 1) = X.take i ++ .int .u64 x :: X.drop i) := hend
  have HS : Hid (W1.setRow g C2 = w.drew.setRow g C2) := hset
  rw [← hW1] at hcp1
  have hz2 : ¬ ((i : Int) = (n : Int)) := by omega
  have hin : i ≤ n := by omega
  have hb1 : (i : Int) + 1 ≤ (n : Int) + 1 := by omega
  have hb2 : ¬ (cap = i + 1) := by omega
  have hb3 : (i : Int) ≤ (n : Int) + 1 := by omega
  have hb4 : ¬ (cap = i) := by omega
  have htn : ((i : Int) + 1).toNat = i + 1 := by omega
  have hw1 : IntKind.i64.wrap ((i : Int) + 1) = (i : Int) + 1 := by rw [IntKind.wrap_i64]; omega
  have hb0 : (0 : Int) ≤ (i : Int) + 1 := by omega
  clear hend hset hg hg1 hcs hC1s hC1 hC2 hW1 hX hvb hXl hdl h1 hne
  go_enter Try.func27, Try.ntmps27
  go_wp2_with (simp only [hov])
  go_region_law (refine step_copy_run rfl _ _ 23 23 rfl _ _ (by simp [Act.eval, Act.put]) (by simp [Act.eval, Act.put]) (hcp1 _ _ _) ?_)
  go_wp2_with (at_builtin; refine wpList_copy_run _ rfl _ _ 23 23 rfl _ _ rfl rfl (hcp2 _ _) ?_)
  go_ret
  exact ⟨rfl, C2, HS.out, HE.out⟩

theorem zeroCells_u64 (m : Nat) : Builtin.zeroCells (Value.int .u64 0).cells m = (List.replicate m (Value.int .u64 0)).toArray := by
  apply Array.ext'
  simp only [Builtin.zeroCells, Value.cells]
  rw [List.eq_replicate_iff]
  simp [Nat.mod_one]

/-- The two copies of an insertion into a new row. -/
theorem lay_grow (X Z : List Value) (n i : Nat) (x : Value) (hi : i ≤ n) (hX : X.length = n) :
    (lay (lay (X.take i ++ Z) i [x]) (i + 1) (X.drop i)).take (n + 1) = X.take i ++ x :: X.drop i := by
  have h1 : lay (X.take i ++ Z) i [x] = X.take i ++ x :: Z.drop 1 := by
    have hm : (X.take i).length = i := by simp; omega
    unfold lay
    rw [List.take_append_of_le_length (by omega), List.take_of_length_le (by omega), List.drop_append, List.drop_of_length_le (by simp; omega), hm]
    simp
  rw [h1]
  unfold lay
  have h2 : (X.take i ++ x :: Z.drop 1).take (i + 1) = X.take i ++ [x] := by
    rw [List.take_append, List.take_of_length_le (by simp; omega)]
    have : i + 1 - (X.take i).length = 1 := by simp [hX]; omega
    rw [this]; simp
  rw [h2, List.take_append_of_le_length (by simp [hX]; omega), List.take_of_length_le (by simp [hX]; omega)]
  simp

set_option maxHeartbeats 4000000 in
set_option maxRecDepth 100000 in
/-- slices.Insert: no room, i < len(s): a new row. -/
theorem insert_grow (g n i vb : Nat) (cur : Array Value) (X : List Value) (x : Int) (w : World) (hi : i < n) (hn : n < 1099511627776) (hne : vb < w.heap.size)
    (hg : w.heap[g]? = some (.cells cur 32 (0, 0))) (hcs : cur.size = n) (hX : cur.toList.take n = X) (h1 : ∀ u ∈ X, u.oneCell' = true)
    (hvb : w.heap[vb]? = some (.cells #[.int .u64 x] 32 (0, 0))) :
    Calls Try.prog 27 #[.slice (some ⟨g, 0, none⟩) n n, .int .i64 i, .slice (some ⟨vb, 0, none⟩) 1 1] w fun e w' =>
      ∃ (C : Array Value) (cap : Nat), e = .returned (.slice (some ⟨w.heap.size, 0, none⟩) (n + 1) cap) ∧ w'.heap[w.heap.size]? = some (.cells C 32 (0, 0)) ∧ w.grownBy w' none ∧ C.size = cap ∧ n + 1 ≤ cap ∧ cap ≤ maxLen ∧ C.toList.take (n + 1) = X.take i ++ .int .u64 x :: X.drop i := by
  obtain ⟨i0, hi0, hz0, hz1, hz2⟩ := info_parts info32
  have hXl : X.length = n := by rw [← hX]; simp; omega
  have hdl : (X.drop i).length = n - i := by simp [hXl]
  have hglt : g < w.heap.size := (Array.getElem?_eq_some_iff.1 hg).1
  obtain ⟨cap, hcap⟩ : ∃ cap, cap = grownCap w (n + 1) n 32 := ⟨_, rfl⟩
  have hge : n + 1 ≤ cap := by rw [hcap]; exact grownCap_ge w (n + 1) n 32
  have hle : cap ≤ maxLen := by rw [hcap]; exact grownCap_le_maxLen w (n + 1) n 32 (by unfold maxLen; omega)
  obtain ⟨C0, hC0⟩ : ∃ C0 : Array Value, C0 = (X.take i ++ List.replicate (cap - i) (Value.int .u64 0)).toArray := ⟨_, rfl⟩
  have hC0s : C0.size = cap := by rw [hC0]; simp [hXl]; omega
  have hap : ∀ ty, (Builtin.append_ #[23, 3] ty #[.slice (some ⟨g, 0, none⟩) i n, .int .i64 ((n : Int) + 1 - i)]).run Try.prog w = .ok (.slice (some ⟨w.heap.size, 0, none⟩) (n + 1) cap) (w.drew.alloc (.cells C0 32)) := fun ty => by
    have h := run_append_grow_zeros (P := Try.prog) w 23 3 ty 32 i0 (.int .u64 0) .i64 .i64 Try.underlying23 Try.underlying3 hi0 hz0 ⟨g, 0, none⟩ i n (X.take i) (by rw [hz1]; simp [hXl]; omega)
      (fun j v hj => by
        rw [addr_add, Nat.zero_add, cell_of_row w g _ cur 32 (0, 0) hg]
        rw [List.getElem?_take, ← hX, List.getElem?_take] at hj
        split at hj
        · split at hj
          · simpa using hj
          · simp at hj
        · simp at hj)
      (n + 1 - i) (by omega) (by omega) (by omega) (by omega) (by rw [hz2]; omega) (by rw [hz2]; exact growslice_fits (by omega) (by omega))
    rw [show i + (n + 1 - i) = n + 1 by omega, ← hcap, show (((n + 1 - i : Nat) : Int)) = (n : Int) + 1 - i by omega] at h
    rw [h, hC0, zeroCells_u64, zeroCells_u64]
    congr 4
    rw [show cap - i = (n + 1 - i) + (cap - (n + 1)) by omega, ← List.replicate_append_replicate]
    simp
  obtain ⟨W0, hW0⟩ : ∃ W0, W0 = w.drew.alloc (.cells C0 32) := ⟨_, rfl⟩
  have hH0 : W0.heap[w.heap.size]? = some (.cells C0 32 (0, 0)) := by rw [hW0]; exact heap_alloc_new w.drew _
  have hO0 : ∀ k, k < w.heap.size → W0.heap[k]? = w.heap[k]? := fun k hk => by rw [hW0]; exact heap_alloc_old w.drew _ hk
  have hgr0 : w.grownBy W0 none := by rw [hW0]; exact ⟨rfl, rfl, rfl, by simp, fun k hk _ => heap_alloc_old w.drew _ hk⟩
  rw [← hW0] at hap
  -- copy(s2[i:], v)
  obtain ⟨C1, hC1⟩ : ∃ C1 : Array Value, C1 = (lay C0.toList i [.int .u64 x]).toArray := ⟨_, rfl⟩
  have hC1s : C1.size = cap := by rw [hC1, List.size_toArray, lay_length _ _ _ (by simp; omega)]; simpa using hC0s
  obtain ⟨W1, hW1⟩ : ∃ W1, W1 = W0.setRow w.heap.size C1 := ⟨_, rfl⟩
  have hcp1 : ∀ ty dc, (Builtin.copy_ #[23, 23] ty #[.slice (some ⟨w.heap.size, i, none⟩) (n + 1 - i) dc, .slice (some ⟨vb, 0, none⟩) 1 1]).run Try.prog W0 = .ok (goInt 1) W1 := fun ty dc => by
    rw [hW1, hC1]
    refine run_copy_row Try.prog W0 23 23 ty 32 w.heap.size i (n + 1 - i) dc ⟨vb, 0, none⟩ 1 1 C0 32 [.int .u64 x] Try.underlying23 size32 hH0 (by simp only [Nat.min_def, List.length_cons, List.length_nil]; split <;> omega) ?_ (by simp; omega) (by simp [Value.oneCell'])
    intro j v hj
    rw [addr_add, cell_of_row _ vb _ _ 32 (0, 0) (by rw [hO0 vb hne]; exact hvb)]
    simpa using hj
  have hH1 : W1.heap[w.heap.size]? = some (.cells C1 32 (0, 0)) := by rw [hW1]; exact setRow_heap _ _ _ _ _ _ hH0
  have hO1 : ∀ k, k < w.heap.size → W1.heap[k]? = w.heap[k]? := fun k hk => by rw [hW1, setRow_other _ _ _ _ (by omega)]; exact hO0 k hk
  have hgr1 : w.grownBy W1 none := by
    rw [hW1]; exact ⟨hgr0.os, hgr0.tape, hgr0.output, by simpa [World.setRow] using hgr0.size, fun k hk _ => by rw [setRow_other _ _ _ _ (by omega)]; exact hO0 k hk⟩
  -- copy(s2[i+1:], s[i:])
  obtain ⟨C2, hC2⟩ : ∃ C2 : Array Value, C2 = (lay C1.toList (i + 1) (X.drop i)).toArray := ⟨_, rfl⟩
  have hC2s : C2.size = cap := by rw [hC2, List.size_toArray, lay_length _ _ _ (by simp [hdl]; omega)]; simpa using hC1s
  obtain ⟨W2, hW2⟩ : ∃ W2, W2 = W1.drew.setRow w.heap.size C2 := ⟨_, rfl⟩
  have hcp2 : ∀ ty dc sc, (Builtin.copy_ #[23, 23] ty #[.slice (some ⟨w.heap.size, i + 1, none⟩) (n - i) dc, .slice (some ⟨g, i, none⟩) (n - i) sc]).run Try.prog W1.drew = .ok (goInt (X.drop i).length) W2 := fun ty dc sc => by
    rw [hW2, hC2]
    refine run_copy_row Try.prog W1.drew 23 23 ty 32 w.heap.size (i + 1) (n - i) dc ⟨g, i, none⟩ (n - i) sc C1 32 (X.drop i) Try.underlying23 size32 hH1 (by rw [hdl]; simp only [Nat.min_def]; split <;> omega) ?_ (by rw [hdl]; omega) (fun v hv => h1 v (List.mem_of_mem_drop hv))
    intro j v hj
    rw [addr_add]
    show W1.cell? _ = _
    rw [cell_of_row W1 g _ cur 32 (0, 0) (by rw [hO1 g hglt]; exact hg)]
    rw [List.getElem?_drop, ← hX, List.getElem?_take] at hj
    split at hj
    · simpa using hj
    · simp at hj
  have HE : Hid (W2.heap[w.heap.size]? = some (.cells C2 32 (0, 0)) ∧ w.grownBy W2 none ∧ C2.size = cap ∧ n + 1 ≤ cap ∧ cap ≤ maxLen ∧ C2.toList.take (n + 1) = X.take i ++ .int .u64 x :: X.drop i) := by
    refine ⟨by rw [hW2]; exact setRow_heap _ _ _ _ _ _ hH1, ?_, hC2s, hge, hle, ?_⟩
    · rw [hW2]; exact ⟨hgr1.os, hgr1.tape, hgr1.output, by simpa [World.setRow] using hgr1.size, fun k hk _ => by rw [setRow_other _ _ _ _ (by omega)]; exact hO1 k hk⟩
    · rw [hC2, hC1, hC0]
      exact lay_grow X _ n i _ (by omega) hXl
  have hz2' : ¬ ((i : Int) = (n : Int)) := by omega
  have hin : i ≤ n := by omega
  have hb1 : (i : Int) + 1 ≤ (n : Int) + 1 := by omega
  have hb2 : ¬ (cap = i + 1) := by omega
  have hb3 : (i : Int) ≤ (n : Int) + 1 := by omega
  have hb4 : ¬ (cap = i) := by omega
  have hb5 : ¬ (n = i) := by omega
  have htn : ((i : Int) + 1).toNat = i + 1 := by omega
  have hw1 : IntKind.i64.wrap ((i : Int) + 1) = (i : Int) + 1 := by rw [IntKind.wrap_i64]; omega
  have hb0 : (0 : Int) ≤ (i : Int) + 1 := by omega
  have hsub : (0 : Int) ≤ (n : Int) + 1 - i := by omega
  have hcm : cap ≤ 9223372036854775807 := by unfold maxLen at hle; omega
  clear hi0 hz0 hz1 hz2 hcap hC0 hC0s hH0 hO0 hgr0 hC1 hC1s hH1 hO1 hgr1 hC2 hC2s hg hcs hX hvb hXl hdl h1 hW0 hW1 hW2 hle
  go_enter Try.func27, Try.ntmps27
  go_wp2_with (at_builtin; refine Lib.wpList_append_run _ rfl _ _ 23 3 rfl _ _ rfl rfl _ _ (hap _) ?_)
  go_region_law (refine step_copy_run rfl _ _ 23 23 rfl _ _ (by simp [Act.eval, Act.put]) (by simp [Act.eval, Act.put]) (hcp2 _ _ _) ?_)
  go_wp2
  go_ret
  exact ⟨C2, cap, rfl, HE.out⟩

/-- slices.Insert(s, i, x), s of the call's own, or nil. -/
theorem insert_any (base n i vb : Nat) (v : Value) (xs : List Int) (x : Int) (w : World) (hown : w.ownsRow base 32 1 v n (U xs)) (hi : i ≤ n) (hn : n < 1099511627776)
    (hvb : w.heap[vb]? = some (.cells #[.int .u64 x] 32 (0, 0))) (hne : v.ownBlock ≠ some vb) (hbase : base ≤ w.heap.size) :
    Calls Try.prog 27 #[v, .int .i64 i, .slice (some ⟨vb, 0, none⟩) 1 1] w fun e w' => ∃ g cap, e = .returned (.slice (some ⟨g, 0, none⟩) (n + 1) cap) ∧
      w'.ownsRow base 32 1 (.slice (some ⟨g, 0, none⟩) (n + 1) cap) (n + 1) (U (xs.take i ++ x :: xs.drop i)) ∧ w.grownBy w' v.ownBlock ∧ (v.ownBlock = some g ∨ g = w.heap.size) := by
  have hxl : xs.length = n := by have := hown.1; rw [U_length] at this; omega
  have hl : (U (xs.take i ++ x :: xs.drop i)).length = (n + 1) * 1 := by rw [U_length]; simp; omega
  have hvl : vb < w.heap.size := (Array.getElem?_eq_some_iff.1 hvb).1
  by_cases he : i = n
  · subst he
    rw [show xs.take i = xs from List.take_of_length_le (by omega), show xs.drop i = [] from List.drop_of_length_le (by omega)]
    exact insert_end base i vb v xs x w hown hn hvb hbase
  · rcases hown.2 with ⟨_, h0⟩ | ⟨g, cap, cur, rfl, hbg, hg, hnc, hcm, hcs, htake⟩
    · omega
    · rw [Nat.mul_one] at hcs htake
      have hne' : vb ≠ g := fun e => hne (by rw [e]; rfl)
      have hUx : (U xs).take i ++ .int .u64 x :: (U xs).drop i = U (xs.take i ++ x :: xs.drop i) := by rw [U_append, U_cons, U_take, U_drop]
      by_cases hroom : n + 1 ≤ cap
      · refine (insert_shift g n cap i vb cur (U xs) x w (by omega) hroom (by unfold maxLen at hcm; omega) hne' hg hcs htake (U_one xs) hvb).mono ?_
        rintro e w' ⟨rfl, C, rfl, hCs, hCt⟩
        refine ⟨g, cap, rfl, ⟨hl, .inr ⟨g, cap, C, rfl, hbg, setRow_heap w.drew g cur C 32 (0, 0) hg, hroom, hcm, by rw [Nat.mul_one]; exact hCs, by rw [Nat.mul_one, hCt, hUx]⟩⟩, ?_, .inl rfl⟩
        exact ⟨rfl, rfl, rfl, by simp [World.setRow], fun k _ hk => setRow_other w.drew g k C (fun e => hk (by rw [e]; rfl))⟩
      · have hcn : cap = n := by omega
        subst hcn
        refine (insert_grow g cap i vb cur (U xs) x w (by omega) hn hvl hg hcs htake (U_one xs) hvb).mono ?_
        rintro e w' ⟨C, cap', rfl, hH, hgr, hCs, hge, hle, hCt⟩
        refine ⟨w.heap.size, cap', rfl, ⟨hl, .inr ⟨w.heap.size, cap', C, rfl, hbase, hH, hge, hle, by rw [Nat.mul_one]; exact hCs, by rw [Nat.mul_one, hCt, hUx]⟩⟩, ?_, .inr rfl⟩
        exact ⟨hgr.os, hgr.tape, hgr.output, hgr.size, fun k hk _ => hgr.block k hk (by simp)⟩
end Go.Proofs.Qxb6000536a.ck
