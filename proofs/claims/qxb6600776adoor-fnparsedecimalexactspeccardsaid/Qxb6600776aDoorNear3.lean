import Derived.Test.Qxb6600776aDoorNear2
import Derived.Test.Qxb6600776aDoorExact
set_option linter.unusedSimpArgs false
set_option linter.unusedVariables false
set_option exponentiation.threshold 10000
namespace Go.Proofs.Qxb6600776aDoor

theorem fmt_bn : Ieee.double.binade = 4503599627370496 := rfl
theorem fmt_sw : Ieee.double.signWeight = 9223372036854775808 := rfl
theorem fmt_inf : Ieee.double.infRung = 9218868437227405312 := rfl
theorem fmt_lp : Ieee.double.leastPlace = -1074 := by decide
/-- A normal word, read. -/
theorem read_normal (e k : Nat) (he : 1 ≤ e) (he2 : e ≤ 2046) (hk1 : 4503599627370496 ≤ k) (hk2 : k < 9007199254740992) :
    Ieee.double.read ((e - 1) * 4503599627370496 + k) = .number false k ((e : Int) - 1075) := by
  obtain ⟨w, hw⟩ : ∃ w, (e - 1) * 4503599627370496 + k = w := ⟨_, rfl⟩
  rw [hw]
  have h1 : w / 9223372036854775808 = 0 := by omega
  have h2 : w % 9223372036854775808 = w := by omega
  have h3 : ¬ w < 4503599627370496 := by omega
  have h4 : w < 9218868437227405312 := by omega
  have h5 : w % 4503599627370496 = k - 4503599627370496 := by omega
  have h6 : w / 4503599627370496 = e := by omega
  simp only [Ieee.Format.read, fmt_bn, fmt_sw, fmt_inf, fmt_lp, h1, h2, if_neg h3, if_pos h4, h5, h6]
  have e1 : 4503599627370496 + (k - 4503599627370496) = k := by omega
  have e2 : (-1074 : Int) + ((e - 1 : Nat) : Int) = (e : Int) - 1075 := by omega
  rw [e1, e2]
  rfl
/-- A whole number below 2^53: its word. -/
theorem ofInt_word (d : Nat) (h0 : 0 < d) (hd : d < 9007199254740992) : floatOfInt .f64 (d : Int) = (1022 + d.log2) * 4503599627370496 + d * 2 ^ (52 - d.log2) ∧ d.log2 ≤ 52 ∧ 4503599627370496 ≤ d * 2 ^ (52 - d.log2) ∧ d * 2 ^ (52 - d.log2) < 9007199254740992 := by
  obtain ⟨b1, b2⟩ := log2_bounds h0
  have hl : d.log2 ≤ 52 := by
    refine Nat.le_of_not_lt (fun h => ?_)
    have : 2 ^ 53 ≤ 2 ^ d.log2 := Nat.pow_le_pow_right (by omega) h
    omega
  have c1 : 4503599627370496 ≤ d * 2 ^ (52 - d.log2) := by
    have := Nat.mul_le_mul_right (2 ^ (52 - d.log2)) b1
    rw [← Nat.pow_add, Nat.add_sub_cancel' hl] at this; exact this
  have c2 : d * 2 ^ (52 - d.log2) < 9007199254740992 := by
    have := Nat.mul_lt_mul_of_pos_right b2 (Nat.pow_pos (by omega) : 0 < 2 ^ (52 - d.log2))
    rw [← Nat.pow_add, show d.log2 + 1 + (52 - d.log2) = 53 by omega] at this; exact this
  refine ⟨?_, hl, c1, c2⟩
  have hn := nearest_word d 0 h0 (by omega) (by omega)
  have hf : floatOfInt .f64 (d : Int) = Ieee.double.nearest false d 0 := by
    have hneg : decide ((d : Int) < 0) = false := decide_eq_false (by omega)
    unfold floatOfInt FloatKind.nearest FloatKind.encode Ieee.Format.write
    simp only [hneg, Int.natAbs_natCast]
    rfl
  rw [hf, hn]
  have e1 : ((0:Int) + d.log2 - 52 + 1074).toNat = 1022 + d.log2 := by omega
  have e2 : d.log2 - 52 = 0 := by omega
  have e3 : rne (d * 2 ^ (52 - d.log2)) (2 ^ 0) = d * 2 ^ (52 - d.log2) := by
    unfold rne; simp [Nat.mod_one]
  rw [e1, e2, e3]
theorem read_ofInt (d : Nat) (h0 : 0 < d) (hd : d < 9007199254740992) : Ieee.double.read (floatOfInt .f64 (d : Int)) = .number false (d * 2 ^ (52 - d.log2)) ((d.log2 : Int) - 52) := by
  obtain ⟨h1, h2, h3, h4⟩ := ofInt_word d h0 hd
  rw [h1]
  have := read_normal (1023 + d.log2) (d * 2 ^ (52 - d.log2)) (by omega) (by omega) h3 h4
  rw [show 1023 + d.log2 - 1 = 1022 + d.log2 by omega] at this
  rw [this]
  congr 1
  omega
/-- The powers of ten up to 10^22, read. -/
def tenM (k : Nat) : Nat := if (10 ^ k).log2 ≤ 52 then 10 ^ k * 2 ^ (52 - (10 ^ k).log2) else 10 ^ k / 2 ^ ((10 ^ k).log2 - 52)
theorem ten_read : ∀ k : Fin 23, Ieee.double.read (w10 k.val) = .number false (tenM k.val) (((10 ^ k.val).log2 : Int) - 52) ∧ 4503599627370496 ≤ tenM k.val ∧ tenM k.val < 9007199254740992 ∧ tenM k.val * 2 ^ (10 ^ k.val).log2 = 10 ^ k.val * 2 ^ 52 ∧ (10 ^ k.val).log2 ≤ 80 := by decide +kernel
end Go.Proofs.Qxb6600776aDoor
