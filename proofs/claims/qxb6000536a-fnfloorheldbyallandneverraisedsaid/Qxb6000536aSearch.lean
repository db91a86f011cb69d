import Derived.Test.Qxb6000536aRows
import Derived.WalkKit
import Derived.ProofKit
import Derived.Deep.LoopGhost
import Derived.Deep.Draws
import Derived.Lib.SlicesSearch
namespace Go.Proofs.Qxb6000536a.ck
open Go.RowKit Go.Lib

theorem cmpNaN (x : Int) (w : World) : Calls Try.prog 37 #[.int .u64 x] w fun e w' => e = .returned (.bool false) ∧ w' = w := by
  go_enter Try.func37, Try.ntmps37
  go_wp2
  go_ret
  exact ⟨by simp, rfl⟩
theorem slNaN (x : Int) (w : World) : Calls Try.prog 32 #[.int .u64 x] w fun e w' => e = .returned (.bool false) ∧ w' = w := by
  go_enter Try.func32, Try.ntmps32
  go_wp2
  go_ret
  exact ⟨by simp, rfl⟩
theorem less (x y : Int) (w : World) : Calls Try.prog 31 #[.int .u64 x, .int .u64 y] w fun e w' => e = .returned (.bool (decide (x < y))) ∧ w' = w := by
  go_enter Try.func31, Try.ntmps31
  go_wp2_with (go_at_call 37; refine (cmpNaN _ _).mono ?_; rintro e w' ⟨rfl, rfl⟩)
  go_ret
  exact ⟨rfl, rfl⟩

/-- How many elements are less than x. -/
def posOf (zs : List Int) (x : Int) : Nat := zs.countP (· < x)
/-- Is x among them? -/
def inB (zs : List Int) (x : Int) : Bool := zs.contains x

/-- BinarySearch of no element. -/
theorem search_none (a : Option Addr) (c : Nat) (x : Int) (w : World) :
    Calls Try.prog 26 #[.slice a 0 c, .int .u64 x] w fun e w' => e = .returned (.tuple #[.int .i64 0, .bool false]) ∧ w' = w := by
  go_enter Try.func26, Try.ntmps26
  go_wp2
  go_loop [7, 8] (fun i j => i = .int .i64 0 ∧ j = .int .i64 0) (fun _ _ => 0)
  case atStart => exact ⟨rfl, rfl⟩
  case round =>
    obtain ⟨rfl, rfl⟩ := hrel
    go_wp2
    go_ret2
    exact ⟨rfl, rfl⟩

set_option maxHeartbeats 4000000 in
set_option maxRecDepth 1000000 in
theorem search_some (b n c : Nat) (zs : List Int) (x : Int) (w : World) (hz : n = zs.length) (hbig : n < 4611686018427387904) (hc : ∀ j, j < zs.length → w.cell? ⟨b, j, none⟩ = some (.int .u64 (zs.getD j 0))) (hs : zs.Pairwise (· ≤ ·)) :
    Calls Try.prog 26 #[.slice (some ⟨b, 0, none⟩) n c, .int .u64 x] w fun e w' => e = .returned (.tuple #[.int .i64 (posOf zs x : Nat), .bool (inB zs x)]) ∧ w' = w := by
  have S : Hid (∀ a b, a ≤ b → b < n → zs.getD a 0 ≤ zs.getD b 0) := Lib.sorted_at zs n (by omega) (by rw [hz]; simpa using hs)
  clear hs
  have Z : Hid (n = zs.length) := hz
  clear hz
  go_enter Try.func26, Try.ntmps26
  go_wp2
  go_loop [7, 8] (fun s7 s8 => ∃ lo hi : Nat, s7 = .int .i64 lo ∧ s8 = .int .i64 hi ∧ lo ≤ hi ∧ hi ≤ n ∧ (∀ t, t < lo → zs.getD t 0 < x) ∧ (∀ t, hi ≤ t → t < n → x ≤ zs.getD t 0)) (fun s7 s8 => (intOf s8 - intOf s7).toNat)
  case atStart => exact ⟨0, n, rfl, rfl, Nat.zero_le _, Nat.le_refl _, fun t ht => absurd ht (Nat.not_lt_zero _), fun t h1 h2 => by omega⟩
  case round =>
    obtain ⟨lo, hi, rfl, rfl, hlh, hin, h1, h2⟩ := hrel
    have I : Hid ((∀ t, t < lo → zs.getD t 0 < x) ∧ (∀ t, hi ≤ t → t < n → x ≤ zs.getD t 0)) := ⟨h1, h2⟩
    clear h1 h2
    by_cases hlt : lo < hi
    · have cm : w.cell? ⟨b, (lo + hi) / 2, none⟩ = some (.int .u64 (zs.getD ((lo + hi) / 2) 0)) := hc _ (by have := Z.out; omega)
      clear hc
      generalize hy : zs.getD ((lo + hi) / 2) 0 = y at cm
      have Y : Hid (zs.getD ((lo + hi) / 2) 0 = y) := hy
      clear hy
      by_cases hyx : y < x
      · go_wp2_with (first | (go_at_call 31; refine (less _ _ _).mono ?_; rintro e w' ⟨rfl, rfl⟩) | (go_at_call 32; refine (slNaN _ _).mono ?_; rintro e w' ⟨rfl, rfl⟩))
        go_round
        case measure => simp [intOf]; omega
        case rel =>
          refine ⟨(lo + hi) / 2 + 1, hi, by rw [show ((lo : Int) + (hi : Int)) / 2 + 1 = (((lo + hi) / 2 + 1 : Nat) : Int) by omega], rfl, by omega, hin, fun t ht => ?_, I.out.2⟩
          have := S.out t ((lo + hi) / 2) (by omega) (by omega)
          rw [Y.out] at this
          omega
      · go_wp2_with (first | (go_at_call 31; refine (less _ _ _).mono ?_; rintro e w' ⟨rfl, rfl⟩) | (go_at_call 32; refine (slNaN _ _).mono ?_; rintro e w' ⟨rfl, rfl⟩))
        go_round
        case measure => simp [intOf]; omega
        case rel =>
          refine ⟨lo, (lo + hi) / 2, rfl, by rw [show ((lo : Int) + (hi : Int)) / 2 = (((lo + hi) / 2 : Nat) : Int) by omega], by omega, by omega, I.out.1, fun t ht htn => ?_⟩
          have := S.out ((lo + hi) / 2) t ht htn
          rw [Y.out] at this
          omega
    · have : hi = lo := by omega
      subst this
      obtain ⟨e1, e2⟩ := Lib.search_end zs n hi x (by have := Z.out; omega) hin I.out.1 I.out.2 S.out
      have et : zs.take n = zs := by rw [Z.out]; simp
      rw [et] at e1 e2
      have E : Hid (posOf zs x = hi ∧ inB zs x = decide (hi < n ∧ zs.getD hi 0 = x)) := ⟨e1, e2⟩
      clear e1 e2 et
      by_cases hn : hi < n
      · have cl : w.cell? ⟨b, hi, none⟩ = some (.int .u64 (zs.getD hi 0)) := hc _ (by have := Z.out; omega)
        clear hc
        generalize hy : zs.getD hi 0 = y at cl
        have Y : Hid (zs.getD hi 0 = y) := hy
        clear hy
        by_cases hyx : y = x
        · go_wp2_with (first | (go_at_call 31; refine (less _ _ _).mono ?_; rintro e w' ⟨rfl, rfl⟩) | (go_at_call 32; refine (slNaN _ _).mono ?_; rintro e w' ⟨rfl, rfl⟩))
          go_ret2
          refine ⟨?_, rfl⟩
          rw [E.out.1, E.out.2, Y.out, decide_eq_true (show hi < n ∧ y = x from ⟨hn, hyx⟩)]
          first | rfl | simp [*]
        · go_wp2_with (first | (go_at_call 31; refine (less _ _ _).mono ?_; rintro e w' ⟨rfl, rfl⟩) | (go_at_call 32; refine (slNaN _ _).mono ?_; rintro e w' ⟨rfl, rfl⟩))
          go_ret2
          refine ⟨?_, rfl⟩
          rw [E.out.1, E.out.2, Y.out, decide_eq_false (show ¬ (hi < n ∧ y = x) from fun h => hyx h.2)]
          first | rfl | simp [*]
      · clear hc
        go_wp2_with (first | (go_at_call 31; refine (less _ _ _).mono ?_; rintro e w' ⟨rfl, rfl⟩) | (go_at_call 32; refine (slNaN _ _).mono ?_; rintro e w' ⟨rfl, rfl⟩))
        go_ret2
        refine ⟨?_, rfl⟩
        rw [E.out.1, E.out.2, decide_eq_false (show ¬ (hi < n ∧ zs.getD hi 0 = x) from fun h => hn h.1)]
        first | rfl | simp [*]
end Go.Proofs.Qxb6000536a.ck
