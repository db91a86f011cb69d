import Derived.Test.Qxb6000536aLaw4
import Derived.Maps.RangeWalk
namespace Go.Proofs.Qxb6000536a.ck
open Go.RowKit Go.Lib Go.Maps Go.ChangeMaps Go.WideMaps
set_option linter.unusedVariables false

/-- A map with string keys in block b: V its elements (z where there is none), dom its keys. -/
structure MapIs (W : World) (b N : Nat) (z : Value) (V : Key → Value) (dom : Key → Bool) (D : DataW Value) : Prop where
  own : W.ownsMap Try.prog 9 raw b N D
  at_ : ∀ k, D.atKey (.string k) (.held z) = .held (V k)
  has : ∀ k, Maps.has D (.string k) = dom k
  str : ∀ kl, Maps.has D kl = true → ∃ k, kl = .string k
def MapOn (W : World) (b N : Nat) (z : Value) (V : Key → Value) (dom : Key → Bool) : Prop := ∃ D, MapIs W b N z V dom D

variable {W W' : World} {b N : Nat} {z : Value} {V : Key → Value} {dom : Key → Bool}

theorem MapOn.made (w : World) (z : Value) : MapOn (w.alloc (.map #[] 0)) w.heap.size 0 z (fun _ => z) (fun _ => false) :=
  ⟨.map [], World.ownsMap_made w _ _ _, fun k => rfl, fun k => rfl, fun kl h => by cases h⟩
theorem MapOn.far (h : MapOn W b N z V dom) (hs : W'.heap[b]? = W.heap[b]?) : MapOn W' b N z V dom := by
  obtain ⟨D, h⟩ := h; exact ⟨D, ownsMap_far h.own hs, h.at_, h.has, h.str⟩
theorem MapOn.lt (h : MapOn W b N z V dom) : b < W.heap.size := by obtain ⟨D, h⟩ := h; exact h.own.lt
theorem MapOn.grown (h : MapOn W b N z V dom) (hg : W.grownBy W' none) : MapOn W' b N z V dom := h.far (hg.block b h.lt (by simp))
theorem MapOn.kept (h : MapOn W b N z V dom) {row : Option Nat} (hg : W.grownBy W' row) (hne : some b ≠ row) : MapOn W' b N z V dom := h.far (hg.block b h.lt hne)

theorem MapOn.look {t e : TypeId} (h : MapOn W b N z V dom) (ht : Try.prog.underlying t = some (.map 9 e)) (hz : (zeroValue e).run Try.prog W = .ok z W) (s : ByteArray) (hs : s.size ≤ maxLen) :
    (Instr.lookup t (.map (some b)) (.string s) false).run Try.prog W = .ok (V s.data.toList) W := by
  obtain ⟨D, h⟩ := h
  obtain ⟨v, ps, hrun, hv⟩ := h.own.lookup law9 ht hz (zd := .held z) (zp := []) rfl (key9 s hs)
  rw [h.at_] at hv
  have := raw_inv hv
  simp only [Prod.mk.injEq, DataW.held.injEq] at this
  rw [hrun, this.1]
theorem MapOn.lookOk {t e : TypeId} (h : MapOn W b N z V dom) (ht : Try.prog.underlying t = some (.map 9 e)) (hz : (zeroValue e).run Try.prog W = .ok z W) (s : ByteArray) (hs : s.size ≤ maxLen) :
    (Instr.lookup t (.map (some b)) (.string s) true).run Try.prog W = .ok (.tuple #[V s.data.toList, .bool (dom s.data.toList)]) W := by
  obtain ⟨D, h⟩ := h
  obtain ⟨v, ps, hrun, hv⟩ := h.own.look_ok law9 ht hz (zd := .held z) (zp := []) rfl (key9 s hs)
  rw [h.at_] at hv
  have := raw_inv hv
  simp only [Prod.mk.injEq, DataW.held.injEq] at this
  rw [hrun, this.1, h.has]
theorem MapOn.put {t e : TypeId} (h : MapOn W b N z V dom) (ht : Try.prog.underlying t = some (.map 9 e)) (hN : N < maxLen) (s : ByteArray) (hs : s.size ≤ maxLen) (v : Value) :
    ∃ W', (Instr.mapUpdate t (.map (some b)) (.string s) v).run Try.prog W = .ok () W' ∧ W.grownBy W' (some b) ∧
      MapOn W' b (N + 1) z (fun k => if k = s.data.toList then v else V k) (fun k => if k = s.data.toList then true else dom k) := by
  obtain ⟨D, h⟩ := h
  obtain ⟨W', hrun, hown, hgr⟩ := h.own.update law9 ht hN (key9 s hs) (val := v) (d := .held v) (ps := []) rfl
  refine ⟨W', hrun, hgr, _, hown, fun k => ?_, fun k => ?_, fun kl hk => ?_⟩
  · by_cases e : k = s.data.toList
    · subst e
      rw [atKey_put_same h.own.isMap (by exact trivial)]
      simp
    · rw [atKey_put_other (by simp [e]), h.at_]
      simp [e]
  · by_cases e : k = s.data.toList
    · subst e
      rw [has_put_same h.own.isMap (by exact trivial)]
      simp
    · rw [has_put_other (by simp [e]), h.has k]
      simp [e]
  · by_cases e : kl = .string s.data.toList
    · exact ⟨_, e⟩
    · rw [has_put_other e] at hk; exact h.str kl hk

/-- 'len(m)', as a number that the keys alone fix. -/
theorem MapOn.len {t e : TypeId} (h : MapOn W b N z V dom) (ht : Try.prog.underlying t = some (.map 9 e)) :
    ∃ n : Nat, (∀ ty, (Builtin.len_ #[t] ty #[.map (some b)]).run Try.prog W = .ok (.int .i64 n) W) ∧ n ≤ N ∧
      ∃ ks : List Key, ks.Nodup ∧ ks.length = n ∧ ∀ k, k ∈ ks ↔ dom k = true := by
  obtain ⟨D, h⟩ := h
  obtain ⟨es, rfl, hp, hkl⟩ := h.own.entries law9
  have hmem : ∀ kl, Maps.has (.map es) kl = true ↔ kl ∈ es.map Prod.fst := fun kl => by
    rw [has_eq, List.any_eq_true, List.mem_map]
    constructor
    · rintro ⟨p, hp, hk⟩; exact ⟨p, hp, WideAt.sameKey_eq hk⟩
    · rintro ⟨p, hp, rfl⟩; exact ⟨p, hp, WideAt.sameKey_self (hkl p hp)⟩
  refine ⟨Maps.size (.map es), fun ty => h.own.len ht ty, h.own.size_le, (es.map Prod.fst).filterMap (fun kl => match kl with | .string k => some k | _ => none), ?_, ?_, fun k => ?_⟩
  · have hnd : (es.map Prod.fst).Nodup := by
      rw [List.Nodup, List.pairwise_map]; exact hp
    exact List.Pairwise.filterMap _ (fun a a' hne b hb b' hb' => by
      intro hbb
      subst hbb
      apply hne
      cases a <;> cases a' <;> simp_all) hnd
  · have : ∀ l : List Lit, (∀ kl ∈ l, ∃ k, kl = .string k) → (l.filterMap (fun kl => match kl with | .string k => some k | _ => none)).length = l.length := by
      intro l
      induction l with
      | nil => intro _; rfl
      | cons a r ih =>
        intro hl
        obtain ⟨k, rfl⟩ := hl a (by simp)
        simp [ih (fun kl hkl => hl kl (by simp [hkl]))]
    rw [this _ (fun kl hk => h.str kl ((hmem kl).2 hk)), List.length_map, size_eq]
  · rw [← h.has k, hmem, List.mem_filterMap]
    constructor
    · rintro ⟨a, ha, hm⟩
      cases a <;> simp_all
    · intro hk; exact ⟨_, hk, rfl⟩

/-- Maps with the same keys are as long. -/
theorem same_len {ks ks' : List Key} (h : ks.Nodup) (h' : ks'.Nodup) (he : ∀ k, k ∈ ks ↔ k ∈ ks') : ks.length = ks'.length :=
  ((List.perm_ext_iff_of_nodup h h').2 he).length_eq
end Go.Proofs.Qxb6000536a.ck
