import Derived.Test.Qxb6600776aDoorUsc
set_option linter.unusedSimpArgs false
set_option linter.unusedVariables false
set_option exponentiation.threshold 10000
namespace Go.Proofs.Qxb6600776aDoor

theorem pack_norm (m : Nat) (e : Int) (h1 : 4503599627370496 ≤ m) (he1 : -1000 ≤ e) (he2 : e < 972) : packV m e = ((e + 1074).toNat * 4503599627370496 + m, false) := by
  unfold packV
  have n1 : ¬ m < 4503599627370496 := by omega
  have n2 : ¬ 972 ≤ e := by omega
  rw [if_neg n1, if_neg n2]
  have h : (e + 1075).toNat * 4503599627370496 + (m - 4503599627370496) = (e + 1074).toNat * 4503599627370496 + m := by omega
  rw [h]
theorem rne_ge (a b c : Nat) (hb : 0 < b) (h : c * b ≤ a) : c ≤ rne a b := by
  unfold rne
  have := (Nat.le_div_iff_mul_le hb).2 h
  omega
set_option maxRecDepth 10000 in
theorem near_end (A B a b : Nat) (e : Int) (hB : 0 < B) (hb : 0 < b) (he1 : -960 ≤ e) (he2 : e ≤ 960) (hx : a * (B * 2 ^ 1100) = A * 2 ^ (1102 + e).toNat * b) (hlo : 18014398509481984 * b ≤ a) (hhi : a < 72057594037927936 * b) :
    (endV (a / b ||| (if a % b = 0 then 0 else 1)) e).2 = false ∧ Near A B (endV (a / b ||| (if a % b = 0 then 0 else 1)) e).1 := by
  have hor := or_bit (a / b) (if a % b = 0 then 0 else 1) (by split <;> omega)
  have hr4 := rnd_rne a b hb
  have hhs := half_sticky a b hb
  have hr8 := rnd_rne a (2 * b) (by omega)
  have hq1 : 18014398509481984 ≤ a / b := (Nat.le_div_iff_mul_le hb).2 hlo
  have hq2 : a < (a / b + 1) * b := Nat.lt_mul_of_div_lt (Nat.lt_succ_self _) hb
  have hq3 := Nat.div_mul_le_self a b
  have e52 : (2:Nat) ^ 52 = 4503599627370496 := by decide
  have e53 : (2:Nat) ^ 53 = 9007199254740992 := by decide
  obtain ⟨u, hu⟩ : ∃ u, (a / b ||| (if a % b = 0 then 0 else 1)) = u := ⟨_, rfl⟩
  have hodd : a / b = 36028797018963965 → u = 36028797018963965 := by
    intro h
    rw [← hu, h]
    split <;> decide
  rw [hu] at hor hr4 hhs
  rw [hu]
  unfold endV
  by_cases hc : 36028797018963966 ≤ u
  · rw [if_pos hc, hhs, hr8]
    by_cases hbig : 36028797018963968 * b ≤ a
    · have hm : 4503599627370496 ≤ rne a (4 * (2 * b)) := rne_ge _ _ _ (by omega) (by omega)
      rw [pack_norm _ _ hm (by omega) (by omega)]
      refine ⟨rfl, 1 - e, ?_⟩
      have := nearE_of (A := A) (B := B) (a := a) (b := 4 * (2 * b)) (E := 1 - e) hB (by omega) (by omega) (by omega) (by
        rw [hx, show (1102 + e).toNat = (1100 - (1 - e)).toNat + 3 by omega, Nat.pow_add, show (2:Nat) ^ 3 = 4 * 2 by decide]
        simp only [Nat.mul_assoc, Nat.mul_comm, Nat.mul_left_comm]) (by rw [e52]; omega) (by rw [e53]; omega)
      rw [e52] at this
      exact this
    · -- just below 2^55
      have hqq : 36028797018963966 ≤ a / b := by
        refine Nat.le_of_not_lt (fun hlt => ?_)
        by_cases h5 : a / b = 36028797018963965
        · have := hodd h5; omega
        · omega
      have hmul : 36028797018963966 * b ≤ a := Nat.le_trans (Nat.mul_le_mul_right _ hqq) hq3
      have d8 : a / (4 * (2 * b)) = 4503599627370495 := by
        refine Nat.div_eq_of_lt_le ?_ ?_ <;> omega
      have d4 : a / (4 * b) = 9007199254740991 := by
        refine Nat.div_eq_of_lt_le ?_ ?_ <;> omega
      have m8 : a % (4 * (2 * b)) = a - 4503599627370495 * (8 * b) := by
        have := Nat.div_add_mod a (4 * (2 * b)); rw [d8] at this; omega
      have m4 : a % (4 * b) = a - 9007199254740991 * (4 * b) := by
        have := Nat.div_add_mod a (4 * b); rw [d4] at this; omega
      have r8 : rne a (4 * (2 * b)) = 4503599627370496 := by
        unfold rne; rw [d8, m8, if_pos (Or.inl (by omega))]
      have r4 : rne a (4 * b) = 9007199254740992 := by
        unfold rne; rw [d4, m4]
        by_cases hlt : 4 * b < 2 * (a - 9007199254740991 * (4 * b))
        · rw [if_pos (Or.inl hlt)]
        · rw [if_pos (Or.inr ⟨by omega, by decide⟩)]
      rw [r8, pack_norm _ _ (by omega) (by omega) (by omega)]
      refine ⟨rfl, -e, ?_⟩
      have := nearE_of (A := A) (B := B) (a := a) (b := 4 * b) (E := -e) hB (by omega) (by omega) (by omega) (by
        rw [hx, show (1102 + e).toNat = (1100 - -e).toNat + 2 by omega, Nat.pow_add]
        simp only [Nat.mul_assoc, Nat.mul_comm, Nat.mul_left_comm]) (by rw [e52]; omega) (by rw [e53]; omega)
      rw [r4, e52] at this
      have ew : (1 - e + 1074).toNat * 4503599627370496 + 4503599627370496 = (-e + 1074).toNat * 4503599627370496 + 9007199254740992 := by omega
      rw [ew]; exact this
  · rw [if_neg hc, hr4]
    have hq4 : a / b ≤ 36028797018963965 := by omega
    have hlt : a < 36028797018963966 * b := Nat.lt_of_lt_of_le hq2 (Nat.mul_le_mul_right _ (by omega))
    have hm : 4503599627370496 ≤ rne a (4 * b) := rne_ge _ _ _ (by omega) (by omega)
    rw [pack_norm _ _ hm (by omega) (by omega)]
    refine ⟨rfl, -e, ?_⟩
    have := nearE_of (A := A) (B := B) (a := a) (b := 4 * b) (E := -e) hB (by omega) (by omega) (by omega) (by
      rw [hx, show (1102 + e).toNat = (1100 - -e).toNat + 2 by omega, Nat.pow_add]
      simp only [Nat.mul_assoc, Nat.mul_comm, Nat.mul_left_comm]) (by rw [e52]; omega) (by rw [e53]; omega)
    rw [e52] at this
    exact this
end Go.Proofs.Qxb6600776aDoor
