import Derived.Test.Qxb6602087aDig
import Derived.Laws.IdiomStrings
namespace Go.Proofs.Qxb6602087a.dig
open Go.ChangeShapes Go.WideShapes Go.ChangeAt Go.RowKit

/-- After some rounds of decimalB1: 'v' is still to be written, the digits 'ds' lie in the array from place 'i' on. -/
def DecRel (a0 : Int) (w : World) (v : Int) (i : Nat) (W : World) : Prop :=
  ∃ ds : List UInt8, ds.length + i = 24 ∧ 0 ≤ v ∧ v < 10 ^ i ∧ v ≤ 9223372036854775807 ∧ ds.all isDig = true ∧ a0 = v * 10 ^ ds.length + pv ds ∧ Grown w W ∧
    (∀ j, j < 24 → ∃ x, W.cell? ⟨w.heap.size, j, none⟩ = some (.int .u8 x)) ∧ (∀ j, j < 24 → W.frozen? ⟨w.heap.size, j, none⟩ = false) ∧
    (∀ j (hj : j < ds.length), W.cell? ⟨w.heap.size, i + j, none⟩ = some (.int .u8 (ds[j].toNat : Int)))

theorem DecRel.start (a0 : Int) (h0 : 0 < a0) (h1 : a0 ≤ 9223372036854775807) (w : World) (C : Array Value) (hC : C = (List.replicate 24 (Value.int .u8 0)).toArray) (t : TypeId) :
    DecRel a0 w a0 24 (w.alloc (.cells C t)) := by
  refine ⟨[], rfl, by omega, by omega, h1, rfl, by simp [pv, pvFrom], Grown.alloc (Grown.refl w) _ _, fun j hj => ⟨0, ?_⟩, fun j _ => World.frozen?_alloc_new _ _ _ _, fun j hj => by simp at hj⟩
  rw [World.cell?_alloc_new, hC, List.getElem?_toArray, List.getElem?_replicate, if_pos hj]

theorem digc (v : Int) : ((UInt8.ofNat (48 + v % 10).toNat).toNat : Int) = 48 + v % 10 := by
  rw [UInt8.toNat_ofNat']; omega

theorem DecRel.step {a0 : Int} {w : World} {v : Int} {k : Nat} {W : World} (h : DecRel a0 w v (k + 1) W) :
    DecRel a0 w (v / 10) k (W.setCell ⟨w.heap.size, k, none⟩ (.int .u8 (48 + v % 10))) := by
  obtain ⟨ds, hl, h0, hp, h63, hd, he, hg, hc, hf, hr⟩ := h
  have hcd := digc v
  refine ⟨UInt8.ofNat (48 + v % 10).toNat :: ds, by simp; omega, by omega, ?_, by omega, ?_, ?_, Grown.setCell hg (Nat.le_refl _) _, fun j hj => ?_, fun j hj => by rw [World.frozen?_setCell]; exact hf j hj, fun j hj => ?_⟩
  · rw [Int.pow_succ] at hp
    generalize (10 : Int) ^ k = q at hp ⊢
    omega
  · simp only [List.all_cons, hd, Bool.and_true, isDig, hcd]
    exact decide_eq_true (by omega)
  · rw [pv_cons, hcd, List.length_cons, Int.pow_succ, he]
    generalize (10 : Int) ^ ds.length = q
    rw [show 48 + v % 10 - 48 = v % 10 by omega, ← Int.add_assoc, Int.mul_comm q 10, ← Int.mul_assoc, ← Int.add_mul]
    rw [show v / 10 * 10 + v % 10 = v by omega]
  · by_cases e : j = k
    · subst e
      obtain ⟨x, hx⟩ := hc j hj
      exact ⟨_, World.cell?_setCell_same _ _ _ hx⟩
    · obtain ⟨x, hx⟩ := hc j hj
      exact ⟨x, by rw [World.cell?_setCell_other _ _ _ _ (fun c => e (by injection c with _ c2 _; exact c2.symm))]; exact hx⟩
  · cases j with
    | zero =>
      obtain ⟨x, hx⟩ := hc k (by simp at hj; omega)
      simp only [Nat.add_zero, List.getElem_cons_zero, hcd]
      exact World.cell?_setCell_same _ _ _ hx
    | succ j =>
      rw [World.cell?_setCell_other _ _ _ _ (by simp)]
      have := hr j (by simpa using hj)
      rw [show k + (j + 1) = k + 1 + j by omega]
      simpa using this

theorem DecRel.fin {a0 : Int} {w : World} {k : Nat} {W : World} (h : DecRel a0 w 0 k W) :
    ∃ ds : List UInt8, ds.length + k = 24 ∧ ds.all isDig = true ∧ pv ds = a0 ∧ Grown w W ∧
      (convert 30 9 (.slice (some ⟨w.heap.size, k, none⟩) (24 - k) (24 - k))).run Try.prog W = .ok (.string ⟨ds.toArray⟩) W := by
  obtain ⟨ds, hl, h0, hp, h63, hd, he, hg, hc, hf, hr⟩ := h
  refine ⟨ds, hl, hd, by rw [he]; simp, hg, ?_⟩
  rw [show 24 - k = ds.length by omega]
  refine run_convert_bytes_back W 30 9 5 ⟨w.heap.size, k, none⟩ _ ds Try.underlying30 Try.underlying5 Try.underlying9 fun j hj => ?_
  rw [add_plain]
  exact hr j hj

set_option maxRecDepth 100000 in
set_option maxHeartbeats 800000 in
theorem dec_any (a0 : Int) (h0 : 0 < a0) (h1 : a0 ≤ 9223372036854775807) (w : World) :
    Calls Try.prog 13 #[.int .i64 a0] w fun e w' => ∃ ds : List UInt8, e = .returned (.string ⟨ds.toArray⟩) ∧ ds.length ≤ 24 ∧ ds.all isDig = true ∧ pv ds = a0 ∧ Grown w w' := by
  have hb : (a0 == 0) = false := by simp; omega
  go_enter Try.func13, Try.ntmps13
  go_wp2
  go_loopw [0, 4] (fun n i W => ∃ (v : Int) (k : Nat), n = .int .i64 v ∧ i = .int .i64 k ∧ DecRel a0 w v k W) (fun n _ _ => (intOf n).toNat)
  case atStart =>
    exact ⟨a0, 24, rfl, rfl, DecRel.start a0 h0 h1 w _ rfl _⟩
  case round =>
    obtain ⟨v, k, rfl, rfl, hR⟩ := hrel
    have hv : 0 ≤ v ∧ v ≤ 9223372036854775807 := by obtain ⟨ds, _, a, _, b, _⟩ := hR; exact ⟨a, b⟩
    by_cases hpos : 0 < v
    · obtain ⟨k, rfl⟩ : ∃ j, k = j + 1 := by
        cases k with
        | zero => obtain ⟨ds, _, _, hp, _⟩ := hR; simp at hp; omega
        | succ j => exact ⟨j, rfl⟩
      have hk : k < 24 := by obtain ⟨ds, hl, _⟩ := hR; omega
      have hki : (k : Int) < 24 := by omega
      obtain ⟨x, hx⟩ : ∃ x, wr.cell? ⟨w.heap.size, k, none⟩ = some (.int .u8 x) := by
        obtain ⟨ds, _, _, _, _, _, _, _, hc, _⟩ := hR; exact hc k hk
      have hfz : wr.frozen? ⟨w.heap.size, k, none⟩ = false := by
        obtain ⟨ds, _, _, _, _, _, _, _, _, hf, _⟩ := hR; exact hf k hk
      rw [show ((k + 1 : Nat) : Int) = (k : Int) + 1 by omega]
      go_wp2
      exact ⟨⟨_, k, rfl, rfl, hR.step⟩, by simp [intOf]; omega⟩
    · obtain rfl : v = 0 := by omega
      obtain ⟨ds, hl, hd, he, hg, hcv⟩ := hR.fin
      have hne : ds ≠ [] := by rintro rfl; simp [pv, pvFrom] at he; omega
      have hk : k < 24 := by have := List.length_pos_iff.2 hne; omega
      have hk' : ¬ 24 = k := by omega
      have hki : (k : Int) ≤ 24 := by omega
      have HE := (id ⟨hl, hd, he⟩ : Hid (ds.length + k = 24 ∧ ds.all isDig = true ∧ pv ds = a0))
      clear hR hl hd he hne
      go_wp2
      go_ret
      have h := HE.out
      exact ⟨ds, rfl, by omega, List.all_eq_true.1 h.2.1, h.2.2, hg⟩

theorem dec_zero (w : World) :
    Calls Try.prog 13 #[.int .i64 0] w fun e w' => e = .returned (.string ⟨#[48]⟩) ∧ w' = w := by
  go_enter Try.func13, Try.ntmps13
  go_wp2
  go_ret
  exact ⟨rfl, rfl⟩

/-- Reading back what was written. -/
theorem digv_of {ds : List UInt8} {a : Int} (hd : ds.all isDig = true) (hp : pv ds = a) (h0 : 0 ≤ a) (h1 : a ≤ 9223372036854775807) : digv ds = a := by
  rw [digv, if_pos hd, hp]; unfold wrap64; omega

set_option maxRecDepth 100000 in
set_option maxHeartbeats 800000 in
theorem round_any (a0 : Int) (h1 : a0 ≤ 9223372036854775807) (w : World) :
    Calls Try.prog 6 #[.int .i64 a0] w fun e w' => e = .returned (.bool true) ∧ Grown w w' := by
  by_cases hneg : a0 < 0
  · go_enter Try.func6, Try.ntmps6
    go_wp2
    go_ret
    exact ⟨rfl, Grown.refl _⟩
  by_cases hz : a0 = 0
  · subst hz
    clear hneg
    have hv : digv [48] = 0 := digv_of (by simp [isDig]) (by simp [pv, pvFrom]) (by omega) (by omega)
    go_enter Try.func6, Try.ntmps6
    go_wp2_with fail
    refine (dec_zero _).mono ?_
    rintro e w' ⟨rfl, rfl⟩
    go_wp2_with fail
    refine (zz_any _ _ (by decide)).mono ?_
    rintro e w' ⟨rfl, rfl⟩
    go_wp2_with fail
    go_ret
    exact ⟨rfl, Grown.refl _⟩
  · have hpos : 0 < a0 := by omega
    go_enter Try.func6, Try.ntmps6
    go_wp2_with fail
    refine (dec_any a0 hpos h1 _).mono ?_
    rintro e w' ⟨ds, rfl, hl, hd, hp, hg⟩
    have hv := digv_of hd hp (by omega) h1
    clear hd hp
    go_wp2_with fail
    refine (zz_any _ _ (by unfold maxLen; simp [ByteArray.size]; omega)).mono ?_
    rintro e w' ⟨rfl, rfl⟩
    go_wp2_with fail
    go_ret
    exact ⟨rfl, hg⟩
end Go.Proofs.Qxb6602087a.dig
