import Derived.Test.Qxb6000536aFold
import Derived.Maps.OwnSet
import Derived.Maps.Keyed
import Derived.StringKeys
namespace Go.Proofs.Qxb6000536a.ck
open Go.RowKit Go.Lib Go.Maps Go.ChangeMaps Go.WideMaps
set_option linter.unusedVariables false

/-- An element of a map is held as it lies. -/
def raw (v : Value) : Option (DataW Value × List MemPlace) := some (.held v, [])
def zeroSeen : Value := .agg #[.int .u64 0, .slice none 0 0]
theorem law9 : Keyed Try.prog 9 := string_keyed Try.underlying9
theorem key9 (s : ByteArray) (hs : s.size ≤ maxLen) : keyOf Try.prog 9 (.string s) = some (.string s.data.toList) := keyOf_string_mk Try.underlying9 hs

/-- What a clock is: the map in block b, its entries' rows in blocks of O, no two in one. -/
structure ClockIs (W : World) (O : Nat → Prop) (b N : Nat) (A : Clk) (D : DataW Value) (sv : Key → Value) : Prop where
  own : W.ownsMap Try.prog 9 raw b N D
  inb : O b
  lt : ∀ g, O g → g < W.heap.size
  at_ : ∀ k, D.atKey (.string k) (.held zeroSeen) = .held (.agg #[.int .u64 (A k).1, sv k])
  row : ∀ k, W.ownsRow 0 32 1 (sv k) (A k).2.length (U (A k).2)
  blk : ∀ k g, (sv k).ownBlock = some g → O g ∧ g ≠ b
  apart : ∀ k k' g, (sv k).ownBlock = some g → (sv k').ownBlock = some g → k = k'
  has : ∀ k, Maps.has D (.string k) = true ↔ A k ≠ (0, [])
  canon : ∀ k, Canon (A k)
  cnt : ∀ k, (A k).1 + (A k).2.length ≤ N
def ClockOn (W : World) (O : Nat → Prop) (b N : Nat) (A : Clk) : Prop := ∃ D sv, ClockIs W O b N A D sv

variable {W W' : World} {O O' : Nat → Prop} {b N : Nat} {A : Clk} {D : DataW Value} {sv : Key → Value}

theorem ownsMap_far {P : Program} {k : TypeId} {R : Value → Option (DataW Value × List MemPlace)} {n : Nat} (h : W.ownsMap P k R b n D) (hs : W'.heap[b]? = W.heap[b]?) : W'.ownsMap P k R b n D := by
  obtain ⟨es, clock, hb, r⟩ := h
  exact ⟨es, clock, by rw [hs]; exact hb, r⟩

/-- A clock hangs on its own blocks alone. -/
theorem ClockIs.far (h : ClockIs W O b N A D sv) (hs : ∀ g, O g → W'.heap[g]? = W.heap[g]?) : ClockIs W' O b N A D sv :=
  ⟨ownsMap_far h.own (hs b h.inb), h.inb, fun g hg => by
    have h1 := hs g hg
    rw [Array.getElem?_eq_getElem (h.lt g hg)] at h1
    exact (Array.getElem?_eq_some_iff.1 h1).1, h.at_, fun k => own_far (h.row k) fun g hg => hs g (h.blk k g hg).1, h.blk, h.apart, h.has, h.canon, h.cnt⟩
theorem ClockOn.far (h : ClockOn W O b N A) (hs : ∀ g, O g → W'.heap[g]? = W.heap[g]?) : ClockOn W' O b N A := by
  obtain ⟨D, sv, h⟩ := h; exact ⟨D, sv, h.far hs⟩
theorem ClockIs.more (h : ClockIs W O b N A D sv) (ho : ∀ g, O g → O' g) (hl : ∀ g, O' g → g < W.heap.size) {N' : Nat} (hn : N ≤ N') : ClockIs W O' b N' A D sv :=
  ⟨h.own.mono hn, ho b h.inb, hl, h.at_, h.row, fun k g hg => ⟨ho g (h.blk k g hg).1, (h.blk k g hg).2⟩, h.apart, h.has, h.canon, fun k => by have := h.cnt k; omega⟩

/-- A new map is an empty clock. -/
theorem ClockOn.made (w : World) : ClockOn (w.alloc (.map #[] 0)) (fun k => k = w.heap.size) w.heap.size 0 zeroC :=
  ⟨.map [], fun _ => .slice none 0 0, World.ownsMap_made w _ _ _, rfl, fun g hg => by rw [hg]; simp, fun k => rfl, fun k => World.ownsRow_nil _ _ _ _, fun k g hg => by simp [Value.ownBlock] at hg, fun k k' g hg => by simp [Value.ownBlock] at hg,
    fun k => by simp [Maps.has, zeroC], fun k => canon_zero, fun k => by simp [zeroC]⟩

theorem raw_inv {v : Value} {z : DataW Value × List MemPlace} (h : raw v = some z) : z = (.held v, []) := by
  simp only [raw, Option.some.injEq] at h; exact h.symm

/-- 'c[node]'. -/
theorem ClockIs.look (h : ClockIs W O b N A D sv) (s : ByteArray) (hs : s.size ≤ maxLen) :
    (Instr.lookup 29 (.map (some b)) (.string s) false).run Try.prog W = .ok (.agg #[.int .u64 (A s.data.toList).1, sv s.data.toList]) W := by
  obtain ⟨v, ps, hrun, hv⟩ := h.own.lookup law9 Try.underlying29 (Try.zeroValue36 W) (zd := .held zeroSeen) (zp := []) rfl (key9 s hs)
  rw [h.at_] at hv
  have := raw_inv hv
  simp only [Prod.mk.injEq, DataW.held.injEq] at this
  rw [hrun, this.1]

/-- 'c[node] = v', in a world in which that node's row may have been written: the entry of one node turned. -/
theorem ClockIs.put {W6 : World} (h : ClockIs W O b N A D sv) (s : ByteArray) (hs : s.size ≤ maxLen) (hN : N < maxLen) (hfar : ∀ g, O g → (sv s.data.toList).ownBlock ≠ some g → W6.heap[g]? = W.heap[g]?)
    (S : Sn) (v : Value) (hrow : W6.ownsRow 0 32 1 v S.2.length (U S.2)) (hS : Canon S) (hne : S ≠ (0, [])) (hc : S.1 + S.2.length ≤ N + 1)
    (hblk : ∀ g, v.ownBlock = some g → O' g ∧ g ≠ b) (hoo : ∀ g, O g → O' g) (hlt : ∀ g, O' g → g < W6.heap.size) (hap : ∀ k g, v.ownBlock = some g → (sv k).ownBlock = some g → k = s.data.toList) :
    ∃ W', (Instr.mapUpdate 29 (.map (some b)) (.string s) (.agg #[.int .u64 S.1, v])).run Try.prog W6 = .ok () W' ∧ W6.grownBy W' (some b) ∧
      ClockOn W' O' b (N + 1) (fun k' => if k' = s.data.toList then S else A k') := by
  have hown6 : W6.ownsMap Try.prog 9 raw b N D := ownsMap_far h.own (hfar b h.inb (fun e => (h.blk _ _ e).2 rfl))
  obtain ⟨W', hrun, hown, hgr⟩ := hown6.update law9 Try.underlying29 hN (key9 s hs) (val := .agg #[.int .u64 S.1, v]) (d := .held (.agg #[.int .u64 S.1, v])) (ps := []) rfl
  refine ⟨W', hrun, hgr, _, fun k' => if k' = s.data.toList then v else sv k', hown, hoo b h.inb, fun g hg => by have := hlt g hg; have := hgr.size; omega, fun k => ?_, fun k => ?_, fun k g hg => ?_, fun k k' g hg hg' => ?_, fun k => ?_, fun k => ?_, fun k => ?_⟩
  · by_cases e : k = s.data.toList
    · subst e
      rw [atKey_put_same h.own.isMap (by exact trivial)]
      simp
    · rw [atKey_put_other (by simp [e]), h.at_]
      simp [e]
  · by_cases e : k = s.data.toList
    · simp only [e, if_true]
      exact own_far hrow fun g hg => hgr.block g (hrow.lt g hg).2 (by have := (hblk g hg).2; simp [this])
    · simp only [e, if_false]
      have h6 : W6.ownsRow 0 32 1 (sv k) (A k).2.length (U (A k).2) := own_far (h.row k) fun g hg => hfar g (h.blk k g hg).1 (fun e' => e (h.apart _ _ g hg e'))
      exact own_far h6 fun g hg => hgr.block g (h6.lt g hg).2 (by have := (h.blk k g hg).2; simp [this])
  · by_cases e : k = s.data.toList
    · simp only [e, if_true] at hg; exact hblk g hg
    · simp only [e, if_false] at hg; exact ⟨hoo g (h.blk k g hg).1, (h.blk k g hg).2⟩
  · by_cases e : k = s.data.toList <;> by_cases e' : k' = s.data.toList
    · rw [e, e']
    · simp only [e, if_true, e', if_false] at hg hg'
      exact absurd (hap k' g hg hg') e'
    · simp only [e, if_false, e', if_true] at hg hg'
      exact absurd (hap k g hg' hg) e
    · simp only [e, if_false, e'] at hg hg'
      exact h.apart k k' g hg hg'
  · by_cases e : k = s.data.toList
    · subst e
      rw [has_put_same h.own.isMap (by exact trivial)]
      simp [hne]
    · rw [has_put_other (by simp [e]), h.has k]
      simp [e]
  · by_cases e : k = s.data.toList
    · simp only [e, if_true]; exact hS
    · simp only [e, if_false]; exact h.canon k
  · by_cases e : k = s.data.toList
    · simp only [e, if_true]; omega
    · simp only [e, if_false]; have := h.cnt k; omega
end Go.Proofs.Qxb6000536a.ck
