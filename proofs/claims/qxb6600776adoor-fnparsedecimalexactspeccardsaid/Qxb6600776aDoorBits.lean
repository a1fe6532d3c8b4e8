import Derived.Laws.Bits64b
import Derived.WalkSmall
namespace Go.Proofs.Qxb6600776aDoor

theorem bits_andNot_u64_nat (a b : Nat) (ha : a < 18446744073709551616) (hb : b < 18446744073709551616) :
    bits .andNot .u64 (a : Int) (b : Int) = ((a - (a &&& b) : Nat) : Int) := by
  have h1 : (BitVec.ofInt 64 (a : Int)).toNat = a := by
    rw [BitVec.ofInt_natCast, BitVec.toNat_ofNat]; exact Nat.mod_eq_of_lt (by omega)
  have h2 : (BitVec.ofInt 64 (b : Int)).toNat = b := by
    rw [BitVec.ofInt_natCast, BitVec.toNat_ofNat]; exact Nat.mod_eq_of_lt (by omega)
  show IntKind.u64.wrap ((BitVec.ofInt 64 (a : Int) &&& ~~~ BitVec.ofInt 64 (b : Int)).toNat : Int) = _
  have hle : ∀ A B : BitVec 64, (A &&& B) + (A &&& ~~~ B) = A := by
    intro A B
    rw [BitVec.add_eq_or_of_and_eq_zero]
    · ext i hi
      simp only [BitVec.getElem_or, BitVec.getElem_and, BitVec.getElem_not]
      cases A[i] <;> cases B[i] <;> rfl
    · ext i hi
      simp only [BitVec.getElem_and, BitVec.getElem_not, BitVec.getElem_zero]
      cases A[i] <;> cases B[i] <;> rfl
  have h3 := congrArg BitVec.toNat (hle (BitVec.ofInt 64 (a : Int)) (BitVec.ofInt 64 (b : Int)))
  rw [BitVec.toNat_add, BitVec.toNat_and, h1, h2] at h3
  have h4 : (a &&& b) ≤ a := Nat.and_le_left
  have h5 := (BitVec.ofInt 64 (a : Int) &&& ~~~ BitVec.ofInt 64 (b : Int)).isLt
  have h6 : (BitVec.ofInt 64 (a : Int) &&& ~~~ BitVec.ofInt 64 (b : Int)).toNat ≤ a := by
    rw [BitVec.toNat_and, h1]; exact Nat.and_le_left
  generalize (BitVec.ofInt 64 (a : Int) &&& ~~~ BitVec.ofInt 64 (b : Int)).toNat = r at *
  rw [IntKind.wrap_u64]
  omega
theorem and_pow (m i : Nat) : m &&& 2 ^ i = m / 2 ^ i % 2 * 2 ^ i := by
  have ht : m.testBit i = decide (m / 2 ^ i % 2 = 1) := Nat.testBit_eq_decide_div_mod_eq
  apply Nat.eq_of_testBit_eq
  intro j
  rw [Nat.testBit_and, Nat.testBit_two_pow]
  rcases Nat.mod_two_eq_zero_or_one (m / 2 ^ i) with h | h
  · rw [h] at ht ⊢
    by_cases e : i = j
    · subst e; simp [ht]
    · simp [e]
  · rw [h] at ht ⊢
    rw [Nat.one_mul, Nat.testBit_two_pow]
    by_cases e : i = j
    · subst e; simp [ht]
    · simp [e]
theorem or_low (h l i : Nat) (hl : l < 2 ^ i) : l ||| h * 2 ^ i = h * 2 ^ i + l := by
  rw [Nat.or_comm, Nat.mul_comm, ← Nat.two_pow_add_eq_or_of_lt hl]
theorem or_one (a : Nat) : a ||| 1 = a / 2 * 2 + 1 := by
  apply Nat.eq_of_testBit_eq
  intro i
  cases i with
  | zero => simp [Nat.testBit_zero]
  | succ i => 
    rw [Nat.testBit_or, Nat.testBit_succ, Nat.testBit_succ, Nat.testBit_succ]
    simp
    congr 1
    omega
theorem or_low1 (a b : Nat) (hb : b < 2) : a ||| b = a / 2 * 2 + (if b = 1 then 1 else a % 2) := by
  by_cases h : b = 1
  · subst h; rw [or_one]; simp
  · have : b = 0 := by omega
    subst this; simp; omega
end Go.Proofs.Qxb6600776aDoor
