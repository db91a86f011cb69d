import Derived.Test.Qxb6000536aInsert
namespace Go.Proofs.Qxb6000536a.ck
open Go.RowKit Go.Lib

section
variable {P : Program}
/-- 'append(d, s...)' where its run is known, as one step of a region that draws. -/
theorem step_append_run {ops : Array Oper} {o : Oper} {a : Act} {w : World} {K : Act → World → Prop} {Q : Exit → Act → World → Prop} {E : Prop}
    (hg : o.guard = none) (d x : Operand) (dT sT : TypeId) (hop : o.op = Op.call { callee := Callee.builtin Builtin.append, args := #[d, x], argTypes := #[dT, sT] })
    (v u : Value) (hd : a.eval d = v) (hx : a.eval x = u) {v' : Value} {w' : World} (hr : (Builtin.append_ #[dT, sT] o.type #[v, u]).run P w = .ok v' w') (hK : K (a.put o.dst v') w') :
    if Region.wanted o (yielded ops a.tmps) = true then Oper.wp P o a w K Q else E := by
  have hw : Region.wanted o (yielded ops a.tmps) = true := by simp [Region.wanted, hg]
  rw [if_pos hw]
  unfold Oper.wp
  simp only [execOp, hop, resolve, invoke, builtin, Sem.run_bind, Sem.run_pure, Result.andThen_ok, List.map_toArray, List.map_cons, List.map_nil, hd, hx, hr]
  exact hK

/-- 'clear(s)' over a row that is known whole. -/
theorem run_clear_row (w : World) (t e ty : TypeId) (z : Value) (ht : P.underlying t = some (.slice e)) (hv : ∀ w, (zeroValue e).run P w = .ok z w) (hz : z.cells = #[z]) (h1 : z.oneCell' = true) (g o n c : Nat) (hn : 0 < n)
    (cur : Array Value) (te : TypeId) (hg : w.heap[g]? = some (.cells cur te (0, 0))) (hfit : o + n ≤ cur.size) :
    (Builtin.clear_ #[t] ty #[.slice (some ⟨g, o, none⟩) n c]).run P w = .ok (.tuple #[]) (w.setRow g (lay cur.toList o (List.replicate n z)).toArray) := by
  have hzc : (Builtin.zeroCells z.cells n).toList = List.replicate n z := by
    rw [hz]
    simp [Builtin.zeroCells]
    apply List.ext_getElem
    · simp
    · intro i h1 h2
      simp [Nat.mod_one]
  have hst := run_storeCells_at P g o te (List.replicate n z) 0 cur w hg (by simpa using hfit) (by intro v hv'; rw [List.eq_of_mem_replicate hv']; exact h1)
  simp only [Nat.add_zero] at hst
  obtain ⟨m, rfl⟩ : ∃ m, n = m + 1 := ⟨n - 1, by omega⟩
  simp [Builtin.clear_, run_underlying ht, hv, hzc, hst, lay]
end

/-- The append and the clear of a deletion at the head. -/
theorem lay_delete (L X : List Value) (n k : Nat) (z : Value) (hl : n ≤ L.length) (hX : L.take n = X) :
    (lay (lay L 0 (X.drop k)) (n - k) (List.replicate k z)).take (n - k) = X.drop k := by
  have hXl : X.length = n := by rw [← hX]; simp; omega
  unfold lay
  rw [List.append_assoc, List.take_append_of_le_length (by simp [hXl]), List.take_take, Nat.min_self, List.take_zero, List.nil_append, List.take_append_of_le_length (by simp [hXl]), List.take_of_length_le (by simp [hXl])]

theorem delete_zero (v : Value) (base n : Nat) (X : List Value) (w : World) (hown : w.ownsRow base 32 1 v n X) :
    Calls Try.prog 35 #[v, .int .i64 0, .int .i64 0] w fun e w' => e = .returned v ∧ w' = w := by
  rcases hown.2 with ⟨rfl, rfl⟩ | ⟨g, cap, cur, rfl, hbg, hg, hnc, hcm, hcs, htake⟩
  · clear hown
    go_enter Try.func35, Try.ntmps35
    go_wp2
    go_ret
    exact ⟨rfl, rfl⟩
  · clear hown hg hcs htake
    unfold maxLen at hcm
    go_enter Try.func35, Try.ntmps35
    go_wp2
    all_goals
      go_ret
      exact ⟨rfl, rfl⟩

set_option maxHeartbeats 4000000 in
set_option maxRecDepth 100000 in
theorem delete_pos (g n cap k : Nat) (cur : Array Value) (X : List Value) (w : World) (h0 : 0 < k) (hk : k ≤ n) (hnc : n ≤ cap)
    (hg : w.heap[g]? = some (.cells cur 32 (0, 0))) (hcs : cur.size = cap) (hX : cur.toList.take n = X) (h1 : ∀ u ∈ X, u.oneCell' = true) :
    Calls Try.prog 35 #[.slice (some ⟨g, 0, none⟩) n cap, .int .i64 0, .int .i64 k] w fun e w' =>
      e = .returned (.slice (some ⟨g, 0, none⟩) (n - k) cap) ∧ ∃ C : Array Value, w' = w.drew.setRow g C ∧ C.size = cap ∧ C.toList.take (n - k) = X.drop k := by
  obtain ⟨i0, hi0, hz0, hz1, hz2⟩ := info_parts info32
  have hXl : X.length = n := by rw [← hX]; simp; omega
  have hdl : (X.drop k).length = n - k := by simp [hXl]
  obtain ⟨C1, hC1⟩ : ∃ C1 : Array Value, C1 = (lay cur.toList 0 (X.drop k)).toArray := ⟨_, rfl⟩
  have hC1s : C1.size = cap := by rw [hC1, List.size_toArray, lay_length _ _ _ (by simp [hdl]; omega)]; simpa using hcs
  obtain ⟨W1, hW1⟩ : ∃ W1, W1 = w.drew.setRow g C1 := ⟨_, rfl⟩
  have hg1 : W1.heap[g]? = some (.cells C1 32 (0, 0)) := by rw [hW1]; exact setRow_heap w.drew g cur C1 32 (0, 0) hg
  have hap : ∀ ty, (Builtin.append_ #[23, 23] ty #[.slice (some ⟨g, 0, none⟩) 0 cap, .slice (if cap = k then some ⟨g, 0, none⟩ else some ⟨g, k, none⟩) (n - k) (cap - k)]).run Try.prog w.drew = .ok (.slice (some ⟨g, 0, none⟩) (n - k) cap) W1 := fun ty => by
    obtain ⟨A, hA, hsrc⟩ : ∃ A : Addr, (if cap = k then some (⟨g, 0, none⟩ : Addr) else some ⟨g, k, none⟩) = some A ∧ (∀ t u, (X.drop k)[t]? = some u → w.drew.cell? (A.add t) = some u) := by
      by_cases h : cap = k
      · refine ⟨⟨g, 0, none⟩, by simp [h], fun t u hu => ?_⟩
        have h0 : (X.drop k).length = 0 := by rw [hdl]; omega
        rw [List.length_eq_zero_iff.1 h0] at hu
        simp at hu
      · refine ⟨⟨g, k, none⟩, by simp [h], fun t u hu => ?_⟩
        rw [addr_add]
        show w.cell? _ = _
        rw [cell_of_row w g _ cur 32 (0, 0) hg]
        rw [List.getElem?_drop, ← hX, List.getElem?_take] at hu
        split at hu
        · simpa using hu
        · simp at hu
    rw [hA]
    have h := run_append_room (P := Try.prog) w.drew 23 ty 32 i0 Try.underlying23 hi0 g 0 cap cur hg A (n - k) (cap - k) (X.drop k) (by rw [hz1, hdl]; omega) hsrc (fun v hv => h1 v (List.mem_of_mem_drop hv)) (by omega) (by rw [hz1, hdl]; omega)
    rw [h, hW1, hC1, hz1, Nat.zero_add]
    rfl
  obtain ⟨C2, hC2⟩ : ∃ C2 : Array Value, C2 = (lay C1.toList (n - k) (List.replicate k (.int .u64 0))).toArray := ⟨_, rfl⟩
  have hC2s : C2.size = cap := by rw [hC2, List.size_toArray, lay_length _ _ _ (by simp; omega)]; simpa using hC1s
  have hcl : ∀ ty c, (Builtin.clear_ #[23] ty #[.slice (some ⟨g, n - k, none⟩) (n - (n - k)) c]).run Try.prog W1 = .ok (.tuple #[]) (W1.setRow g C2) := fun ty c => by
    have h := run_clear_row (P := Try.prog) W1 23 32 ty (.int .u64 0) Try.underlying23 Try.zeroValue32 rfl rfl g (n - k) k c h0 C1 32 hg1 (by omega)
    rw [show n - (n - k) = k by omega, h, hC2]
  have hset : W1.setRow g C2 = w.drew.setRow g C2 := by
    rw [hW1]
    unfold World.setRow
    simp only [World.mk.injEq, and_true]
    apply Array.ext_getElem?
    intro k
    simp only [Array.getElem?_modify]
    split
    · cases w.drew.heap[k]? with
      | none => rfl
      | some o => cases o <;> rfl
    · rfl
  have HE : Hid (C2.size = cap ∧ C2.toList.take (n - k) = X.drop k) := ⟨hC2s, by rw [hC2, hC1]; exact lay_delete cur.toList X n k _ (by simp; omega) hX⟩
  have HS : Hid (W1.setRow g C2 = w.drew.setRow g C2) := hset
  have hz : ¬ ((0 : Int) = (k : Int)) := by omega
  have hkc : k ≤ cap := by omega
  have hb1 : ((n : Int) - k) = ((n - k : Nat) : Int) := by omega
  have hb2 : n - k ≤ n := by omega
  have hb3 : ¬ (cap = n - k) := by omega
  clear hi0 hz0 hz1 hz2 hset hg hg1 hcs hC1s hC1 hC2 hC2s hW1 hX hXl hdl h1 hb1
  go_enter Try.func35, Try.ntmps35
  go_wp2_with fail
  go_region_law (refine step_append_run rfl (.tmp 22) (.tmp 25) 23 23 rfl _ _ (by simp [Act.eval, Act.put]) (by simp [Act.eval, Act.put]) (hap _) ?_)
  go_wp2
  · go_ret
    exact ⟨rfl, C2, HS.out, by have := HE.out; rwa [‹cap = k›] at this⟩
  · go_ret
    exact ⟨rfl, C2, HS.out, HE.out⟩

/-- slices.Delete(s, 0, k), s of the call's own. -/
theorem delete_some (base n k g cap : Nat) (xs : List Int) (w : World) (hown : w.ownsRow base 32 1 (.slice (some ⟨g, 0, none⟩) n cap) n (U xs)) (hk : k ≤ n) :
    Calls Try.prog 35 #[.slice (some ⟨g, 0, none⟩) n cap, .int .i64 0, .int .i64 k] w fun e w' => e = .returned (.slice (some ⟨g, 0, none⟩) (n - k) cap) ∧
      w'.ownsRow base 32 1 (.slice (some ⟨g, 0, none⟩) (n - k) cap) (n - k) (U (xs.drop k)) ∧ w.grownBy w' (some g) := by
  have hxl : xs.length = n := by have := hown.1; rw [U_length] at this; omega
  by_cases h0 : k = 0
  · subst h0
    refine (delete_zero _ base n _ w hown).mono ?_
    rintro e w' ⟨rfl, rfl⟩
    exact ⟨rfl, by simpa using hown, ⟨rfl, rfl, rfl, Nat.le_refl _, fun _ _ _ => rfl⟩⟩
  · rcases hown.2 with ⟨_, h0⟩ | ⟨g', cap', cur, hv, hbg, hg, hnc, hcm, hcs, htake⟩
    · omega
    · simp only [Value.slice.injEq, Option.some.injEq, Addr.mk.injEq, and_true, true_and] at hv
      obtain ⟨rfl, rfl⟩ := hv
      rw [Nat.mul_one] at hcs htake
      refine (delete_pos g n cap k cur (U xs) w (by omega) hk hnc hg hcs htake (U_one xs)).mono ?_
      rintro e w' ⟨rfl, C, rfl, hCs, hCt⟩
      refine ⟨rfl, ⟨by rw [U_length]; simp; omega, .inr ⟨g, cap, C, rfl, hbg, setRow_heap w.drew g cur C 32 (0, 0) hg, by omega, hcm, by rw [Nat.mul_one]; exact hCs, by rw [Nat.mul_one, hCt, U_drop]⟩⟩, ?_⟩
      exact ⟨rfl, rfl, rfl, by simp [World.setRow], fun k _ hk => setRow_other w.drew g k C (fun e => hk (by rw [e]))⟩
end Go.Proofs.Qxb6000536a.ck
