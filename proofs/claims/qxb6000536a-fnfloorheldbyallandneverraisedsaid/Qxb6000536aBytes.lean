import Derived.Test.Qxb6000536aClone
namespace Go.Proofs.Qxb6000536a.ck
open Go.RowKit Go.Lib Go.Maps
set_option linter.unusedVariables false

def minI (a b : Int) : Int := if a < b then a else b
theorem minInt_any (a b : Int) (w : World) : Calls Try.prog 17 #[.int .i64 a, .int .i64 b] w fun e w' => e = .returned (.int .i64 (minI a b)) ∧ w' = w := by
  by_cases h : a < b
  · have : minI a b = a := by simp [minI, h]
    rw [this]; clear this
    go_enter Try.func17, Try.ntmps17
    go_wp2
    go_ret
    exact ⟨rfl, rfl⟩
  · have : minI a b = b := by simp [minI, h]
    rw [this]; clear this
    go_enter Try.func17, Try.ntmps17
    go_wp2
    go_ret
    exact ⟨rfl, rfl⟩

/-- A slice of strings, each of a length that Go lets be. -/
def StrsAt (W : World) (v : Value) (ss : List ByteArray) : Prop := SliceAt W v (ss.map Value.string) ∧ ∀ s ∈ ss, s.size ≤ maxLen
theorem StrsAt.cell {W : World} {a : Option Addr} {n c : Nat} {ss : List ByteArray} (h : StrsAt W (.slice a n c) ss) (k : Nat) (hk : k < ss.length) :
    ∃ b off s, a = some ⟨b, off, none⟩ ∧ b < W.heap.size ∧ W.cell? ⟨b, off + k, none⟩ = some (.string s) ∧ s = ss[k] ∧ s.size ≤ maxLen := by
  obtain ⟨⟨a', c', hv, hc⟩, hs⟩ := h
  simp only [Value.slice.injEq] at hv
  obtain ⟨rfl, _, rfl⟩ := hv
  obtain ⟨b, off, hp, hb, hc⟩ := hc (by intro e; simp at e; subst e; simp at hk)
  exact ⟨b, off, ss[k], hp, hb, by have := hc k (by simpa using hk); rw [this]; simp, rfl, hs _ (List.getElem_mem hk)⟩
theorem SliceAt.form {W : World} {v : Value} {vs : List Value} (h : SliceAt W v vs) : ∃ a c, v = .slice a vs.length c := by obtain ⟨a, c, h, _⟩ := h; exact ⟨a, c, h⟩

set_option maxHeartbeats 4000000 in
set_option maxRecDepth 100000 in
/-- strBytes: some small number. -/
theorem strBytes_any (w : World) (v : Value) (ss : List ByteArray) (hv : StrsAt w v ss) (hn : ss.length < 1000000000000) :
    Calls Try.prog 9 #[v] w fun e w' => ∃ t : Int, e = .returned (.int .i64 t) ∧ 0 ≤ t ∧ t ≤ 2097152 ∧ w' = w := by
  obtain ⟨a, c, hv'⟩ := hv.1.form
  rw [List.length_map] at hv'
  subst hv'
  have HV : Hid (StrsAt w (.slice a ss.length c) ss) := hv
  clear hv
  go_enter Try.func9, Try.ntmps9
  go_wp2
  go_loop [3, 4] (fun s3 s4 => ∃ (k : Nat) (t : Int), s3 = .int .i64 t ∧ s4 = .int .i64 k ∧ k ≤ ss.length ∧ 0 ≤ t ∧ t ≤ 1048576) (fun _ s4 => ss.length - (intOf s4).toNat)
  case atStart => exact ⟨0, 0, rfl, rfl, Nat.zero_le _, by omega, by omega⟩
  case round =>
    obtain ⟨k, t, rfl, rfl, hk, ht0, ht1⟩ := hrel
    by_cases hlt : k < ss.length
    · obtain ⟨b, off, s, rfl, hb, hc, hss, hsz⟩ := HV.out.cell k hlt
      clear hss
      unfold maxLen at hsz
      have hlt' : (k : Int) < (ss.length : Int) := by omega
      by_cases hbig : 1048576 < (s.size : Int)
      · go_wp2
        go_ret
        exact ⟨_, rfl, by omega, by omega, rfl⟩
      · by_cases hsum : 1048576 < t + (s.size : Int)
        · go_wp2
          go_ret
          exact ⟨_, rfl, by omega, by omega, rfl⟩
        · go_wp2
          go_round
          case rel => exact ⟨k + 1, t + s.size, by go_num, by go_num, by omega, by omega, by omega⟩
          case measure => simp [intOf]; omega
    · go_wp2
      go_ret
      exact ⟨_, rfl, by omega, by omega, rfl⟩
end Go.Proofs.Qxb6000536a.ck
