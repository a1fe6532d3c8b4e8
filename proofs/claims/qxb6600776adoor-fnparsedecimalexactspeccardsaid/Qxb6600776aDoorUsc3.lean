import Derived.Test.Qxb6600776aDoorUsc2
set_option linter.unusedSimpArgs false
set_option linter.unusedVariables false
set_option exponentiation.threshold 10000
namespace Go.Proofs.Qxb6600776aDoor

theorem e136 : (2:Nat) ^ 136 = 87112285931760246646623899502532662132736 := by decide
theorem tab_pos : ∀ p : Fin 19, 0 ≤ lg p.val ∧ lg p.val ≤ 59 ∧ pLo (p.val + 348) = 0 ∧ pHi (p.val + 348) = 10 ^ p.val * 2 ^ (63 - (lg p.val).toNat) := by decide +kernel
/-- p >= 0: the table's rows are exact. -/
theorem near_pf_pos (d p : Nat) (hp : p ≤ 18) (h0 : 0 < d) (hd : d < 18446744073709551616) : (pf64 d p).2 = false ∧ Near (d * 10 ^ p) 1 (pf64 d p).1 := by
  obtain ⟨b1, b2, b3, b4⟩ := bl_bounds d h0 hd
  obtain ⟨b, hb⟩ : ∃ b, Lib.bitLen d = b := ⟨_, rfl⟩
  rw [hb] at b1 b2 b3 b4
  have hx := just_bounds d b b1 b2 b3 b4
  obtain ⟨t1, t2, t3, t4⟩ := tab_pos ⟨p, by omega⟩
  simp only at t1 t2 t3 t4
  obtain ⟨g, hg⟩ : ∃ g : Nat, lg p = (g : Int) := ⟨(lg p).toNat, by omega⟩
  rw [hg] at t1 t2 t4
  have hg59 : g ≤ 59 := by omega
  have hgn : ((g : Int)).toNat = g := by omega
  rw [hgn] at t4
  rw [pf64_eq d p b hb (53 - (b : Int) - lg p) (by rw [hg]; omega) 8 (by rw [hg]; omega) (by omega), hg]
  have hidx : ((p : Int) + 348).toNat = p + 348 := by omega
  rw [hidx, t3]
  have hH := (tab_all ⟨p + 348, by omega⟩)
  simp only at hH
  obtain ⟨x, hxx⟩ : ∃ x, d * 2 ^ (64 - b) = x := ⟨_, rfl⟩
  rw [hxx] at hx ⊢
  obtain ⟨H, hHH⟩ : ∃ H, pHi (p + 348) = H := ⟨_, rfl⟩
  rw [hHH] at hH t4 ⊢
  obtain ⟨a, ha⟩ : ∃ a, a = x * H * 18446744073709551616 := ⟨_, rfl⟩
  -- a = d * 10^p * 2^(191 - b - g)
  have hae : a = d * 10 ^ p * 2 ^ (191 - b - g) := by
    rw [ha, ← hxx, t4]
    have e64 : (18446744073709551616 : Nat) = 2 ^ 64 := by decide
    rw [e64, show 191 - b - g = (64 - b) + (63 - g) + 64 by omega, Nat.pow_add, Nat.pow_add]
    simp only [Nat.mul_assoc, Nat.mul_comm, Nat.mul_left_comm]
  have hmul : ∃ v, a = 295147905179352825856 * v := by
    refine ⟨d * 10 ^ p * 2 ^ (191 - b - g - 68), ?_⟩
    have e68 : (295147905179352825856 : Nat) = 2 ^ 68 := by decide
    rw [hae, e68, show 191 - b - g = 68 + (191 - b - g - 68) by omega, Nat.pow_add]
    rw [show 68 + (191 - b - g - 68) - 68 = 191 - b - g - 68 by omega]
    simp only [Nat.mul_assoc, Nat.mul_comm, Nat.mul_left_comm]
  have hus := usc_exact x H 0 (a / 87112285931760246646623899502532662132736) (a % 87112285931760246646623899502532662132736) hx.2 (by omega) (by
    rw [← ha, Nat.mul_zero, Nat.add_zero, Nat.mul_comm]; exact (Nat.div_add_mod _ _).symm) (by
    obtain ⟨v, hv⟩ := hmul
    rw [hv]; omega)
  have hif : (if a % 87112285931760246646623899502532662132736 < 18446744073709551616 then 0 else 1 : Nat) = if a % 87112285931760246646623899502532662132736 = 0 then 0 else 1 := by
    obtain ⟨v, hv⟩ := hmul
    by_cases hz : a % 87112285931760246646623899502532662132736 = 0
    · rw [if_pos hz, if_pos (by omega)]
    · have : ¬ a % 87112285931760246646623899502532662132736 < 18446744073709551616 := by rw [hv] at hz ⊢; omega
      rw [if_neg hz, if_neg this]
  rw [hus, hif]
  have hb1 : 9223372036854775808 * 9223372036854775808 ≤ x * H := Nat.mul_le_mul hx.1 hH.1
  have hb2 : x * H < 18446744073709551616 * 18446744073709551616 := Nat.mul_lt_mul_of_lt_of_lt hx.2 hH.2.1
  refine near_end (d * 10 ^ p) 1 a 87112285931760246646623899502532662132736 (53 - (b : Int) - g) (by omega) (by omega) (by omega) (by omega) ?_ ?_ ?_
  · rw [hae, ← e136, Nat.one_mul, Nat.mul_assoc, Nat.mul_assoc (d * 10 ^ p), ← Nat.pow_add, ← Nat.pow_add]
    congr 2; omega
  · rw [ha]; omega
  · rw [ha]; omega
end Go.Proofs.Qxb6600776aDoor
