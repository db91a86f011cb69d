import Derived.Test.Qxb6000536aSearch
import Derived.Lib.AppendZeros
import Derived.Lib.Overlaps
import Derived.Laws.Externs
import Derived.Laws.CopyRow
import Derived.Deep.AppendLies
import Derived.Deep.RegionLaw
namespace Go.Proofs.Qxb6000536a.ck
open Go.RowKit Go.Lib

/-! ### Laws of no function of the program: 'copy', 'append(s[:i], make(S, m)...)' -/
section
variable {P : Program}

/-- 'copy(d, s)' where its run is known, at a plain region's list. -/
theorem wpList_copy_run (w : World) {ops : Array Oper} {rest : List Oper} {o : Oper} {a : Act} {Q : Exit → Act → World → Prop} (hgd : o.guard = none) (d s : Operand) (t t' : TypeId)
    (ho : o.op = .call { callee := .builtin .copy, args := #[d, s], argTypes := #[t, t'] }) (v u : Value) (hd : a.eval d = v) (hs : a.eval s = u) {v' : Value} {w' : World}
    (hr : (Builtin.copy_ #[t, t'] o.type #[v, u]).run P w = .ok v' w') (h : wpList P ops Q rest (a.put o.dst v') w') : wpList P ops Q (o :: rest) a w := by
  refine wpList_plain hgd fun _ hK => ?_
  unfold Oper.wp execOp
  simp only [ho, resolve, invoke, builtin, Sem.run_bind, Sem.run_pure, Result.andThen_ok, List.map_toArray, List.map_cons, List.map_nil, hd, hs, hr]
  exact hK _ _ h

/-- .. and as one step of a region that draws. -/
theorem step_copy_run {ops : Array Oper} {o : Oper} {a : Act} {w : World} {K : Act → World → Prop} {Q : Exit → Act → World → Prop} {E : Prop}
    (hg : o.guard = none) (d x : Operand) (dT sT : TypeId) (hop : o.op = Op.call { callee := Callee.builtin Builtin.copy, args := #[d, x], argTypes := #[dT, sT] })
    (v u : Value) (hd : a.eval d = v) (hx : a.eval x = u) {v' : Value} {w' : World} (hr : (Builtin.copy_ #[dT, sT] o.type #[v, u]).run P w = .ok v' w') (hK : K (a.put o.dst v') w') :
    if Region.wanted o (yielded ops a.tmps) = true then Oper.wp P o a w K Q else E := by
  have hw : Region.wanted o (yielded ops a.tmps) = true := by simp [Region.wanted, hg]
  rw [if_pos hw]
  unfold Oper.wp
  simp [execOp, hop, resolve, invoke, builtin, hd, hx, hr, Result.andThen]
  exact hK

/-- 'append(s, make(S, m)...)' WHERE s HAS NO ROOM: a new row: the old elements, then zeros. -/
theorem run_append_grow_zeros (w : World) (t tn ty e : TypeId) (i : TypeInfo) (z : Value) (k kn : IntKind) (ht : P.underlying t = some (.slice e)) (htn : P.underlying tn = some (.int kn)) (hi : P.info? e = some i) (hz : i.zero = some z)
    (b : Addr) (sLen sCap : Nat) (olds : List Value) (hlo : olds.length = sLen * i.size) (holds : ∀ j v, olds[j]? = some v → w.cell? (b.add j) = some v)
    (m : Nat) (h0 : 0 < m) (hs : 0 < i.size) (hg : sCap < sLen + m) (h63 : ((sLen + m : Nat) : Int) ≤ 9223372036854775807) (h48 : m * i.bytes ≤ 281474976710656) (hfit : Builtin.nextslicecap (sLen + m) sCap * i.bytes ≤ 281474976710656) :
    (Builtin.append_ #[t, tn] ty #[.slice (some b) sLen sCap, .int k m]).run P w =
      .ok (.slice (some ⟨w.heap.size, 0, none⟩) (sLen + m) (grownCap w (sLen + m) sCap e))
        (w.drew.alloc (.cells (olds.toArray ++ Builtin.zeroCells z.cells m ++ Builtin.zeroCells z.cells (grownCap w (sLen + m) sCap e - (sLen + m))) e)) := by
  have hn : m ≠ 0 := by omega
  have hw : IntKind.i64.wrap (m : Int) = m := by rw [IntKind.wrap_i64]; omega
  have hr : ¬ (sLen + m ≤ sCap) := by omega
  have h63' : ¬ (9223372036854775807 < ((sLen : Int) + (m : Int))) := by omega
  have h48' : ¬ (281474976710656 < Builtin.nextslicecap (sLen + m) sCap * i.bytes) := by omega
  have h48i : ¬ (281474976710656 < (m : Int) * (i.bytes : Int)) := by
    rw [← Int.natCast_mul]
    omega
  have hneg : ¬ ((m : Int) < 0) := by omega
  have hns : ¬ (m * i.size = 0) := Nat.mul_ne_zero hn (by omega)
  have hfo := run_firstCells_some (P := P) w.drew i.size sLen b sLen sCap olds hlo (by simpa using holds)
  simp [Builtin.append_, run_underlying ht, run_underlying htn, sizeOf, typeInfo, zeroValue, hi, hz, Builtin.lenOf, asInt, asIntOf, hw, hneg, hr, h63', h48', h48i, Question.forced, hfo, newRow, grownCap]
  exact fun h => absurd h hns
end

theorem info32 : (Try.prog.info? 32).map (fun i => (i.zero, i.size, i.bytes)) = some (some (.int .u64 0), 1, 8) := by kernel_rfl
theorem size32 : (Try.prog.info? 32).map (·.size) = some 1 := by kernel_rfl
/-- A list of numbers as cells. -/
def U (l : List Int) : List Value := l.map (Value.int .u64)
theorem U_one (l : List Int) : ∀ u ∈ U l, u.oneCell' = true := by
  intro u hu
  obtain ⟨x, _, rfl⟩ := List.mem_map.1 hu
  rfl
theorem U_length (l : List Int) : (U l).length = l.length := by simp [U]
theorem U_append (l r : List Int) : U (l ++ r) = U l ++ U r := by simp [U]
theorem U_cons (x : Int) (r : List Int) : U (x :: r) = .int .u64 x :: U r := by simp [U]
theorem U_take (l : List Int) (i : Nat) : U (l.take i) = (U l).take i := by simp [U, List.map_take]
theorem U_drop (l : List Int) (i : Nat) : U (l.drop i) = (U l).drop i := by simp [U, List.map_drop]
theorem U_get (l : List Int) (i : Nat) (h : i < l.length) : (U l)[i]? = some (.int .u64 (l.getD i 0)) := by simp [U, h]

/-! ### slices.Insert(s, i, x) at []uint64 -/
/-- At the end: append. -/
theorem insert_end (base n vb : Nat) (v : Value) (xs : List Int) (x : Int) (w : World) (hown : w.ownsRow base 32 1 v n (U xs)) (hn : n < 1099511627776)
    (hvb : w.heap[vb]? = some (.cells #[.int .u64 x] 32 (0, 0))) (hbase : base ≤ w.heap.size) :
    Calls Try.prog 27 #[v, .int .i64 n, .slice (some ⟨vb, 0, none⟩) 1 1] w fun e w' => ∃ g cap, e = .returned (.slice (some ⟨g, 0, none⟩) (n + 1) cap) ∧
      w'.ownsRow base 32 1 (.slice (some ⟨g, 0, none⟩) (n + 1) cap) (n + 1) (U (xs ++ [x])) ∧ w.grownBy w' v.ownBlock ∧ (v.ownBlock = some g ∨ g = w.heap.size) := by
  obtain ⟨i0, hi, hz0, hz1, hz2⟩ := info_parts info32
  have hnews := World.news_of_block hvb
  have h1 := U_one [x]
  have H : Hid (w.ownsRow base 32 1 v n (U xs)) := hown
  rcases hown.2 with ⟨rfl, rfl⟩ | ⟨g, cap, cur, rfl, hbg, hg, hnc, hcm, hcs, htake⟩
  · clear hown
    go_enter Try.func27, Try.ntmps27
    go_wp2_with (at_builtin; refine wpList_append_lies _ rfl _ _ 23 rfl base 32 i0 (.int .u64 0) 1 8 Try.underlying23 hi hz0 hz1 hz2 rfl (by omega) _ _ _ rfl H.out ⟨vb, 0, none⟩ 1 1 [.int .u64 x] rfl rfl hnews h1 (by omega) (by unfold maxLen; omega) (by omega) hbase _ rfl ?_; intro g cap w1 hown1 hgrow hat hlt)
    go_ret
    have hx : U xs ++ [Value.int .u64 x] = U (xs ++ [x]) := by simp [U]
    exact ⟨g, cap, rfl, by rw [← hx]; exact hown1, hgrow, hat⟩
  · clear hown hg hcs htake
    go_enter Try.func27, Try.ntmps27
    go_wp2_with (at_builtin; refine wpList_append_lies _ rfl _ _ 23 rfl base 32 i0 (.int .u64 0) 1 8 Try.underlying23 hi hz0 hz1 hz2 rfl (by omega) _ _ _ rfl H.out ⟨vb, 0, none⟩ 1 1 [.int .u64 x] rfl rfl hnews h1 (by omega) (by unfold maxLen; omega) (by omega) hbase _ rfl ?_; intro g' cap' w1 hown1 hgrow hat hlt)
    all_goals
      go_ret
      have hx : U xs ++ [Value.int .u64 x] = U (xs ++ [x]) := by simp [U]
      exact ⟨g', cap', rfl, by rw [← hx]; exact hown1, hgrow, hat⟩
end Go.Proofs.Qxb6000536a.ck
