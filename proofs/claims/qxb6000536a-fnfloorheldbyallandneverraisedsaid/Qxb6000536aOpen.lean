import Derived.Test.Qxb6000536aBytes
import Derived.OpenShut
import Derived.ShutString
import Derived.ChangeOld
import Derived.Below
import Derived.Carry
import Derived.Deep.Strs
namespace Go.Proofs.Qxb6000536a.ck
open Go.ChangeShapes Go.WideShapes Go.ChangeAt Go.RowKit Go.Deep
open Go.ChangeMaps (open_string shut_string)
set_option linter.unusedVariables false

theorem own : ownKnob Try.prog.godebug = none := by kernel_rfl
theorem laidOut : laidOutB Try.prog = true := by kernel_rfl
theorem cells9 : Try.prog.cellsOf 9 = 1 := by kernel_rfl
theorem cells32 : Try.prog.cellsOf 32 = 1 := by kernel_rfl
theorem cells59 : Try.prog.cellsOf 59 = 1 := by kernel_rfl

theorem below_of {w w' : World} (h : w.grownBy w' none) : Below w.heap.size w w' := ⟨h.os, h.tape, h.output, h.size, fun k hk => h.block k hk (by simp)⟩

variable {H : Type} {enc : TypeId × Value → H} {W : World}

/-- A slice of numbers that came in. -/
theorem got_ints {t e : TypeId} {q : IntKind} (ht : Try.prog.underlying t = some (.slice e)) (he : Try.prog.underlying e = some (.int q)) (hc : Try.prog.cellsOf e = 1) {a : Option Addr} {len cap : Nat} {d : DataW H} {ps : List MemPlace}
    (h : DataW.Trod enc Try.prog W 0 (fun _ => true) true t (.slice a len cap) d ps) : ∃ xs : List Int, xs.length = len ∧ SliceAt W (.slice a len cap) (xs.map (Value.int q)) ∧ len ≤ 9223372036854775807 ∧ ∀ x ∈ xs, (Lit.int q x).wf = true := by
  obtain ⟨fuel, hf⟩ := h
  rcases open_ints ht he hc hf with ⟨hcs, _⟩ | ⟨x, l, c, zs, hcs, _, hl, hm, hz, _, hcell, hwz⟩
  · simp [Value.cells] at hcs
    obtain ⟨rfl, rfl, rfl⟩ := hcs
    exact ⟨[], rfl, ⟨none, 0, rfl, fun h => absurd rfl h⟩, by omega, by simp⟩
  · simp [Value.cells] at hcs
    obtain ⟨rfl, rfl, rfl⟩ := hcs
    simp only [if_true] at hz
    refine ⟨zs.take len, by simp; omega, ⟨some x, cap, by simp; omega, fun hne => ?_⟩, by unfold maxLen at hm; omega, fun y hy => hwz y (List.mem_of_mem_take hy)⟩
    have h0 : 0 < len := by
      rcases Nat.eq_zero_or_pos len with h0 | h0
      · rw [h0] at hne; simp at hne
      · exact h0
    obtain ⟨b, off, spot⟩ := x
    have hspot : spot = none := by simpa [Addr.add] using World.cell?_spot (hcell 0 (by omega))
    subst hspot
    refine ⟨b, off, rfl, World.block_lt_of_cell? W ⟨b, off, none⟩ (by simpa [Addr.add] using hcell 0 (by omega)), fun j hj => ?_⟩
    have hj' : j < zs.length := by simp at hj; omega
    have := hcell j hj'
    rw [add_plain] at this
    rw [this]
    simp [List.getD, hj']

/-- A slice of strings that came in. -/
theorem got_strs {a : Option Addr} {len cap : Nat} {d : DataW H} {ps : List MemPlace}
    (h : DataW.Trod enc Try.prog W 0 (fun _ => true) true 22 (.slice a len cap) d ps) : ∃ ss : List ByteArray, ss.length = len ∧ StrsAt W (.slice a len cap) ss ∧ len ≤ 9223372036854775807 := by
  obtain ⟨fuel, hf⟩ := h
  rcases open_strs Try.underlying22 Try.underlying9 cells9 hf with ⟨hcs, _⟩ | ⟨x, l, c, m, Sx, hcs, _, hl, hm, hmm, _, hcell⟩
  · simp [Value.cells] at hcs
    obtain ⟨rfl, rfl, rfl⟩ := hcs
    exact ⟨[], rfl, ⟨⟨none, 0, rfl, fun h => absurd rfl h⟩, by simp⟩, by omega⟩
  · simp [Value.cells] at hcs
    obtain ⟨rfl, rfl, rfl⟩ := hcs
    simp only [if_true] at hmm
    subst hmm
    refine ⟨(List.range len).map Sx, by simp, ⟨⟨some x, m, by simp, fun hne => ?_⟩, fun s hs => ?_⟩, by unfold maxLen at hm; omega⟩
    · have h0 : 0 < len := by
        rcases Nat.eq_zero_or_pos len with h0 | h0
        · rw [h0] at hne; simp at hne
        · exact h0
      obtain ⟨b, off, spot⟩ := x
      have hspot : spot = none := by simpa [Addr.add] using World.cell?_spot (hcell 0 (by omega)).1
      subst hspot
      refine ⟨b, off, rfl, World.block_lt_of_cell? W ⟨b, off, none⟩ (by simpa [Addr.add] using (hcell 0 (by omega)).1), fun j hj => ?_⟩
      have hj' : j < len := by simpa using hj
      have := (hcell j (by omega)).1
      rw [add_plain] at this
      rw [this]
      simp
    · obtain ⟨i, hi, rfl⟩ := List.mem_map.1 hs
      exact (hcell i (by have := List.mem_range.1 hi; omega)).2

theorem u64_top {x : Int} (h : (Lit.int .u64 x).wf = true) : x < 18446744073709551616 := by
  have h' : IntKind.u64.min ≤ x ∧ x ≤ IntKind.u64.max := by simpa [Lit.wf] using h
  exact Int.lt_of_le_of_lt h'.2 (by decide)
end Go.Proofs.Qxb6000536a.ck
