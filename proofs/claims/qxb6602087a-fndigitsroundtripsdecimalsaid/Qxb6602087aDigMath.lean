import Derived.Test.Qxb6602087aRows
import Derived.WalkKit
import Derived.ProofKit
namespace Go.Proofs.Qxb6602087a.dig
open Go.RowKit

def isDig (c : UInt8) : Bool := decide (48 ≤ (c.toNat : Int) ∧ (c.toNat : Int) ≤ 57)
/-- The number that a list of digits spells, unbounded. -/
def pvFrom (n : Int) : List UInt8 → Int
  | [] => n
  | c :: l => pvFrom (n * 10 + ((c.toNat : Int) - 48)) l
def pv (l : List UInt8) : Int := pvFrom 0 l
/-- What digits answers. -/
def digv (l : List UInt8) : Int := if l.all isDig = true then wrap64 (pv l) else -1

theorem pvFrom_append (n : Int) (l r : List UInt8) : pvFrom n (l ++ r) = pvFrom (pvFrom n l) r := by
  induction l generalizing n with
  | nil => rfl
  | cons c l ih => simp only [List.cons_append, pvFrom]; exact ih _
theorem pv_snoc (l : List UInt8) (c : UInt8) : pv (l ++ [c]) = pv l * 10 + ((c.toNat : Int) - 48) := by
  unfold pv; rw [pvFrom_append]; rfl
theorem pvFrom_eq (n : Int) (l : List UInt8) : pvFrom n l = n * 10 ^ l.length + pv l := by
  induction l generalizing n with
  | nil => simp [pvFrom, pv]
  | cons c l ih =>
    have h1 := ih (n * 10 + ((c.toNat : Int) - 48))
    have h2 := ih (0 * 10 + ((c.toNat : Int) - 48))
    have h3 : pv (c :: l) = pvFrom (0 * 10 + ((c.toNat : Int) - 48)) l := rfl
    rw [h3, h2]
    simp only [pvFrom]
    rw [h1, List.length_cons, Int.pow_succ]
    simp only [Int.add_mul, Int.zero_mul, Int.zero_add]
    rw [show n * 10 * 10 ^ l.length = n * (10 ^ l.length * 10) by rw [Int.mul_assoc, Int.mul_comm 10]]
    omega
theorem pv_cons (c : UInt8) (l : List UInt8) : pv (c :: l) = ((c.toNat : Int) - 48) * 10 ^ l.length + pv l := by
  have h := pvFrom_eq (0 * 10 + ((c.toNat : Int) - 48)) l
  show pvFrom (0 * 10 + ((c.toNat : Int) - 48)) l = _
  rw [h]; simp

theorem wrap64_mod (a : Int) : ∃ k, wrap64 a = a + k * 18446744073709551616 := by
  refine ⟨-((a + 9223372036854775808) / 18446744073709551616), ?_⟩
  unfold wrap64; omega
theorem wrap64_shift (a k : Int) : wrap64 (a + k * 18446744073709551616) = wrap64 a := by
  unfold wrap64; omega
/-- One round of Horner's rule, wraps and all. -/
theorem horner (n d : Int) : wrap64 (wrap64 (wrap64 n * 10) + d) = wrap64 (n * 10 + d) := by
  unfold wrap64; omega
/-- One round from right to left, wraps and all. -/
theorem rtl (v p d : Int) : wrap64 (wrap64 v + wrap64 (d * wrap64 p)) = wrap64 (v + d * p) := by
  obtain ⟨k, hk⟩ := wrap64_mod p
  rw [hk, Int.mul_add, ← Int.mul_assoc, wrap64_shift]
  generalize d * p = q
  unfold wrap64; omega
theorem ten (p : Int) : wrap64 (wrap64 p * 10) = wrap64 (p * 10) := by unfold wrap64; omega
theorem wrap64_bd (n : Int) : -9223372036854775808 ≤ wrap64 n ∧ wrap64 n ≤ 9223372036854775807 := by unfold wrap64; omega

theorem take_snoc (s : ByteArray) (k : Nat) (h : k < s.size) : s.data.toList.take (k + 1) = s.data.toList.take k ++ [s[k]] := by
  rw [List.take_succ_eq_append_getElem (by simpa using h)]; rfl
theorem drop_cons (s : ByteArray) (k : Nat) (h : k < s.size) : s.data.toList.drop k = s[k] :: s.data.toList.drop (k + 1) := by
  rw [List.drop_eq_getElem_cons (by simpa using h)]; rfl
theorem all_snoc (s : ByteArray) (k : Nat) (h : k < s.size) : (s.data.toList.take (k + 1)).all isDig = ((s.data.toList.take k).all isDig && isDig s[k]) := by
  rw [take_snoc s k h]; simp
theorem not_all (s : ByteArray) (k : Nat) (h : k < s.size) (hd : isDig s[k] = false) : s.data.toList.all isDig = false := by
  rw [← Bool.not_eq_true, List.all_eq_true]
  intro hc
  have := hc s[k] (List.mem_of_mem_take (i := k + 1) (by rw [take_snoc s k h]; simp))
  rw [this] at hd; exact absurd hd (by decide)
end Go.Proofs.Qxb6602087a.dig
