import Derived.Test.Qxb6600776aDoorRange
import Derived.Test.Qxb6600776aDoorNear2
set_option linter.unusedSimpArgs false
set_option linter.unusedVariables false
set_option exponentiation.threshold 10000
namespace Go.Proofs.Qxb6600776aDoor

set_option maxRecDepth 10000 in
/-- uscale is exact: what it gives of a product that is a multiple of 2^136, or far from one. -/
theorem usc_exact (x H L c ε : Nat) (hx : x < 18446744073709551616) (hL : L < 18446744073709551616) (hP : x * H * 18446744073709551616 = c * 87112285931760246646623899502532662132736 + ε + x * L)
    (h : ε < 18446744073709551616 ∨ (73786976294838206464 ≤ ε ∧ ε + 36893488147419103232 ≤ 87112285931760246646623899502532662132736)) : usc x H L 8 = c ||| (if ε < 18446744073709551616 then 0 else 1) := by
  have hm2 : x * L / 18446744073709551616 ≤ 18446744073709551614 := by
    have h1 : x * L ≤ 18446744073709551615 * 18446744073709551615 := Nat.mul_le_mul (by omega) (by omega)
    omega
  obtain ⟨hi, hhi⟩ : ∃ hi, x * H / 18446744073709551616 = hi := ⟨_, rfl⟩
  obtain ⟨mid, hmid⟩ : ∃ mid, x * H % 18446744073709551616 = mid := ⟨_, rfl⟩
  obtain ⟨mid2, hmid2⟩ : ∃ mid2, x * L / 18446744073709551616 = mid2 := ⟨_, rfl⟩
  obtain ⟨lo, hlo⟩ : ∃ lo, x * L % 18446744073709551616 = lo := ⟨_, rfl⟩
  have e1 : x * H = hi * 18446744073709551616 + mid := by omega
  have e2 : x * L = mid2 * 18446744073709551616 + lo := by omega
  have b1 : mid < 18446744073709551616 := by omega
  have b2 : lo < 18446744073709551616 := by omega
  unfold usc
  rw [hhi, hmid, hmid2]
  rw [hmid2] at hm2
  rw [e1, e2] at hP
  clear hhi hmid hmid2 hlo e1 e2 hx hL
  unfold uscF
  have e256 : (2:Nat) ^ 8 = 256 := by decide
  rw [e256]
  rcases h with h | ⟨h1, h2⟩
  · have hh : hi = 256 * c := by omega
    have hd : hi / 256 * 256 = hi := by rw [hh, Nat.mul_div_cancel_left _ (by decide), Nat.mul_comm]
    have hml : ¬ mid < mid2 := by omega
    have hs : ¬ 1 < mid - mid2 := by omega
    have hc : hi / 256 = c := by omega
    rw [if_pos h, if_pos hd, if_neg hml, if_neg hs, hc]
  · have hε : ¬ ε < 18446744073709551616 := by omega
    rw [if_neg hε]
    by_cases g0 : hi = 256 * c
    · have hd : hi / 256 * 256 = hi := by rw [g0, Nat.mul_div_cancel_left _ (by decide), Nat.mul_comm]
      have hml : ¬ mid < mid2 := by omega
      have hs : 1 < mid - mid2 := by omega
      have hc : hi / 256 = c := by omega
      rw [if_pos hd, if_neg hml, if_pos hs, hc]
    · by_cases g1 : hi = 256 * (c + 1)
      · have hd : hi / 256 * 256 = hi := by rw [g1, Nat.mul_div_cancel_left _ (by decide), Nat.mul_comm]
        have hml : mid < mid2 := by omega
        have hs : 1 < mid + 18446744073709551616 - mid2 := by omega
        have hc : (hi - 1) / 256 = c := by omega
        rw [if_pos hd, if_pos hml, if_pos hs, hc]
      · have hr : 256 * c < hi ∧ hi < 256 * (c + 1) := by omega
        have hd : ¬ hi / 256 * 256 = hi := by omega
        have hc : hi / 256 = c := by omega
        rw [if_neg hd, hc]
theorem or01 (c : Nat) : c ||| 0 = c ∧ c ||| 1 = c / 2 * 2 + 1 := ⟨by simp, or_one c⟩
/-- The rounding of u = floor(a/b) with a sticky bit. -/
theorem rnd_rne (a b : Nat) (hb : 0 < b) : rnd (a / b ||| (if a % b = 0 then 0 else 1)) = rne a (4 * b) := by
  have hq := Nat.div_add_mod a b
  have hr := Nat.mod_lt a hb
  obtain ⟨q, hq'⟩ : ∃ q, a / b = q := ⟨_, rfl⟩
  obtain ⟨r, hr'⟩ : ∃ r, a % b = r := ⟨_, rfl⟩
  have hdiv : a / (4 * b) = q / 4 := by rw [Nat.mul_comm 4 b, ← Nat.div_div_eq_div_mul, hq']
  have hmod : a % (4 * b) = b * (q % 4) + r := by rw [Nat.mul_comm 4 b, Nat.mod_mul, hr', hq', Nat.add_comm]
  unfold rne
  rw [hdiv, hmod, hq', hr']
  rw [hr'] at hr
  have hq4 : q % 4 = 0 ∨ q % 4 = 1 ∨ q % 4 = 2 ∨ q % 4 = 3 := by omega
  by_cases h0 : r = 0
  · subst h0
    rw [if_pos rfl, (or01 q).1]
    unfold rnd
    rcases hq4 with h | h | h | h
    · rw [h, if_neg (by omega)]; omega
    · rw [h, if_neg (by omega)]; omega
    · rw [h]
      by_cases ho : q / 4 % 2 = 1
      · rw [if_pos (Or.inr ⟨by omega, ho⟩)]; omega
      · rw [if_neg (by omega)]; omega
    · rw [h, if_pos (Or.inl (by omega))]; omega
  · rw [if_neg h0, (or01 q).2]
    unfold rnd
    rcases hq4 with h | h | h | h
    · rw [h, if_neg (by omega)]; omega
    · rw [h, if_neg (by omega)]; omega
    · rw [h, if_pos (Or.inl (by omega))]; omega
    · rw [h, if_pos (Or.inl (by omega))]; omega
/-- Half of u, the sticky bit kept. -/
theorem half_sticky (a b : Nat) (hb : 0 < b) : ((a / b ||| (if a % b = 0 then 0 else 1)) / 2 ||| (a / b ||| (if a % b = 0 then 0 else 1)) % 2) = a / (2 * b) ||| (if a % (2 * b) = 0 then 0 else 1) := by
  obtain ⟨q, hq'⟩ : ∃ q, a / b = q := ⟨_, rfl⟩
  obtain ⟨r, hr'⟩ : ∃ r, a % b = r := ⟨_, rfl⟩
  have hr := Nat.mod_lt a hb
  have hdiv : a / (2 * b) = q / 2 := by rw [Nat.mul_comm 2 b, ← Nat.div_div_eq_div_mul, hq']
  have hmod : a % (2 * b) = b * (q % 2) + r := by rw [Nat.mul_comm 2 b, Nat.mod_mul, hr', hq', Nat.add_comm]
  rw [hdiv, hmod, hq', hr']
  have hq2 : q % 2 = 0 ∨ q % 2 = 1 := by omega
  by_cases h0 : r = 0
  · subst h0
    rw [if_pos rfl, (or01 q).1]
    rcases hq2 with h | h
    · rw [h, if_pos (by omega)]
    · rw [h, if_neg (by omega)]
  · rw [if_neg h0, (or01 q).2, if_neg (by omega)]
    have e1 : (q / 2 * 2 + 1) / 2 = q / 2 := by omega
    have e2 : (q / 2 * 2 + 1) % 2 = 1 := by omega
    rw [e1, e2]
end Go.Proofs.Qxb6600776aDoor
