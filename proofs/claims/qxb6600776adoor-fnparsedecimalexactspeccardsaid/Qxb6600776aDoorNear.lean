import Ieee.Arith
set_option linter.unusedSimpArgs false
set_option linter.unusedVariables false
set_option exponentiation.threshold 10000
namespace Go.Proofs.Qxb6600776aDoor

/-- a / b to the nearest whole number, ties to even. -/
def rne (a b : Nat) : Nat := a / b + (if b < 2 * (a % b) ∨ (b = 2 * (a % b) ∧ a / b % 2 = 1) then 1 else 0)
theorem rne_scale (a b k : Nat) (hk : 0 < k) : rne (a * k) (b * k) = rne a b := by
  unfold rne
  rw [Nat.mul_div_mul_right _ _ hk, Nat.mul_mod_mul_right]
  have e1 : (b * k < 2 * (a % b * k)) ↔ (b < 2 * (a % b)) := by
    rw [← Nat.mul_assoc]; exact Nat.mul_lt_mul_right hk
  have e2 : (b * k = 2 * (a % b * k)) ↔ (b = 2 * (a % b)) := by
    rw [← Nat.mul_assoc]; exact Nat.mul_left_inj (by omega)
  simp only [e1, e2]
theorem rne_ratio {a b c d : Nat} (hb : 0 < b) (hd : 0 < d) (h : a * d = c * b) : rne a b = rne c d := by
  rw [← rne_scale a b d hd, ← rne_scale c d b hb, h, Nat.mul_comm b d]
/-- The word nearest to A / B, where it is a normal number: E is the place of its last digit. -/
def NearE (A B : Nat) (E : Int) (w : Nat) : Prop :=
  -1074 ≤ E ∧ E ≤ 1100 ∧ 2 ^ 52 * (B * 2 ^ 1100) ≤ A * 2 ^ (1100 - E).toNat ∧ A * 2 ^ (1100 - E).toNat < 2 ^ 53 * (B * 2 ^ 1100) ∧
  w = (E + 1074).toNat * 2 ^ 52 + rne (A * 2 ^ (1100 - E).toNat) (B * 2 ^ 1100)
def Near (A B w : Nat) : Prop := ∃ E, NearE A B E w
theorem nearE_le {A B C D : Nat} {E F : Int} {w v : Nat} (hB : 0 < B) (hD : 0 < D) (h : NearE A B E w) (k : NearE C D F v) (hx : A * D = C * B) : F ≤ E := by
  refine Int.not_lt.1 (fun hlt => ?_)
  obtain ⟨a1, a2, a3, a4, -⟩ := h
  obtain ⟨b1, b2, b3, b4, -⟩ := k
  obtain ⟨t, ht⟩ : ∃ t : Nat, (1100 - E).toNat = (1100 - F).toNat + 1 + t := ⟨(1100 - E).toNat - (1100 - F).toNat - 1, by omega⟩
  -- a * d' = c * b * 2^(1+t)
  have e : A * 2 ^ (1100 - E).toNat * D = C * 2 ^ (1100 - F).toNat * B * 2 ^ (1 + t) := by
    rw [ht, Nat.add_assoc, Nat.pow_add]
    calc A * (2 ^ (1100 - F).toNat * 2 ^ (1 + t)) * D = (A * D) * 2 ^ (1100 - F).toNat * 2 ^ (1 + t) := by simp only [Nat.mul_assoc, Nat.mul_comm, Nat.mul_left_comm]
      _ = (C * B) * 2 ^ (1100 - F).toNat * 2 ^ (1 + t) := by rw [hx]
      _ = _ := by simp only [Nat.mul_assoc, Nat.mul_comm, Nat.mul_left_comm]
  have u1 : A * 2 ^ (1100 - E).toNat * D < 2 ^ 53 * (B * 2 ^ 1100) * D := Nat.mul_lt_mul_of_pos_right a4 hD
  have u2 : 2 ^ 52 * (D * 2 ^ 1100) * B * 2 ^ (1 + t) ≤ C * 2 ^ (1100 - F).toNat * B * 2 ^ (1 + t) := Nat.mul_le_mul_right _ (Nat.mul_le_mul_right _ b3)
  have u3 : 2 ^ 52 * (D * 2 ^ 1100) * B * 2 ≤ 2 ^ 52 * (D * 2 ^ 1100) * B * 2 ^ (1 + t) := Nat.mul_le_mul_left _ (by
    have : 2 ^ 1 ≤ 2 ^ (1 + t) := Nat.pow_le_pow_right (by omega) (by omega)
    simpa using this)
  have u4 : 2 ^ 53 * (B * 2 ^ 1100) * D = 2 ^ 52 * (D * 2 ^ 1100) * B * 2 := by
    have : (2:Nat) ^ 53 = 2 ^ 52 * 2 := by decide
    rw [this]; simp only [Nat.mul_assoc, Nat.mul_comm, Nat.mul_left_comm]
  rw [e, u4] at u1
  exact absurd (Nat.lt_of_lt_of_le u1 (Nat.le_trans u3 u2)) (Nat.lt_irrefl _)
theorem near_unique {A B C D w v : Nat} (hB : 0 < B) (hD : 0 < D) (h : Near A B w) (k : Near C D v) (hx : A * D = C * B) : w = v := by
  obtain ⟨E, hE⟩ := h
  obtain ⟨F, hF⟩ := k
  have e1 := nearE_le hB hD hE hF hx
  have e2 := nearE_le hD hB hF hE hx.symm
  have e : F = E := by omega
  subst e
  obtain ⟨-, -, -, -, rfl⟩ := hE
  obtain ⟨-, -, -, -, rfl⟩ := hF
  congr 1
  refine rne_ratio (Nat.mul_pos hB (Nat.pow_pos (by omega))) (Nat.mul_pos hD (Nat.pow_pos (by omega))) ?_
  calc A * 2 ^ (1100 - F).toNat * (D * 2 ^ 1100) = (A * D) * 2 ^ (1100 - F).toNat * 2 ^ 1100 := by simp only [Nat.mul_assoc, Nat.mul_comm, Nat.mul_left_comm]
    _ = (C * B) * 2 ^ (1100 - F).toNat * 2 ^ 1100 := by rw [hx]
    _ = _ := by simp only [Nat.mul_assoc, Nat.mul_comm, Nat.mul_left_comm]
/-- Near, from any scaled pair a / b = (A / B) / 2^E. -/
theorem nearE_of {A B a b : Nat} {E : Int} (hB : 0 < B) (hb : 0 < b) (h1 : -1074 ≤ E) (h2 : E ≤ 1100) (hx : a * (B * 2 ^ 1100) = A * 2 ^ (1100 - E).toNat * b) (hlo : 2 ^ 52 * b ≤ a) (hhi : a < 2 ^ 53 * b) :
    NearE A B E ((E + 1074).toNat * 2 ^ 52 + rne a b) := by
  have hp : 0 < B * 2 ^ 1100 := Nat.mul_pos hB (Nat.pow_pos (by omega))
  refine ⟨h1, h2, ?_, ?_, ?_⟩
  · refine Nat.le_of_mul_le_mul_right ?_ hb
    rw [← hx]
    have := Nat.mul_le_mul_right (B * 2 ^ 1100) hlo
    generalize B * 2 ^ 1100 = c at *
    calc 2 ^ 52 * c * b = 2 ^ 52 * b * c := by simp only [Nat.mul_assoc, Nat.mul_comm, Nat.mul_left_comm]
      _ ≤ _ := this
  · refine Nat.lt_of_mul_lt_mul_right (a := b) ?_
    rw [← hx]
    have := Nat.mul_lt_mul_of_pos_right hhi hp
    generalize B * 2 ^ 1100 = c at *
    calc a * c < 2 ^ 53 * b * c := this
      _ = _ := by simp only [Nat.mul_assoc, Nat.mul_comm, Nat.mul_left_comm]
  · rw [rne_ratio hb hp hx]
/-- The model's rounding is rne. -/
theorem cut_rne (neg : Bool) (n t : Nat) (ht : t ≤ n.log2 + 2) : Ieee.Toward.even.cut neg n t = rne n (2 ^ t) := by
  have e : min t (n.log2 + 2) = t := by omega
  unfold Ieee.Toward.cut rne
  simp only [e, Nat.one_shiftLeft]
  congr 1
  by_cases h1 : 2 ^ t < 2 * (n % 2 ^ t)
  · simp [h1]
  · by_cases h2 : 2 ^ t = 2 * (n % 2 ^ t)
    · by_cases h3 : n / 2 ^ t % 2 = 1
      · simp [h1, ← h2, h3]
      · simp [h1, ← h2, h3]
    · simp [h1, h2]
end Go.Proofs.Qxb6600776aDoor
