import Derived.Test.Qxb6600776aDoorNear
import Derived.Laws.FloatArith
set_option linter.unusedSimpArgs false
set_option linter.unusedVariables false
set_option exponentiation.threshold 10000
namespace Go.Proofs.Qxb6600776aDoor

theorem rne_le {a b : Nat} (hb : 0 < b) (h : a < 2 ^ 53 * b) : rne a b ≤ 2 ^ 53 := by
  unfold rne
  have : a / b < 2 ^ 53 := (Nat.div_lt_iff_lt_mul hb).2 h
  split <;> omega
theorem rne_sticky (n m t : Nat) (hm : 0 < m) (ht : 2 ≤ t) : rne (2 * (n / m) + (n % m != 0).toNat) (2 ^ t) = rne (2 * n) (m * 2 ^ t) := by
  obtain ⟨v, rfl⟩ : ∃ v, t = v + 2 := ⟨t - 2, by omega⟩
  obtain ⟨T, hT⟩ : ∃ T, T = 2 ^ (v + 1) := ⟨_, rfl⟩
  have hTe : T = 2 * 2 ^ v := by rw [hT, Nat.pow_succ]; omega
  have hT0 : 0 < 2 ^ v := Nat.pow_pos (by omega)
  have hTT : (2:Nat) ^ (v + 2) = 2 * T := by rw [hT, Nat.pow_succ]; omega
  rw [hTT]
  have hq := Nat.div_add_mod n m
  have hr := Nat.mod_lt n hm
  have e1 : 2 * n / (m * (2 * T)) = n / m / T := by
    rw [← Nat.mul_assoc, Nat.mul_comm m 2, Nat.mul_assoc, Nat.mul_div_mul_left _ _ (by omega), Nat.div_div_eq_div_mul]
  have e2 : 2 * n % (m * (2 * T)) = 2 * (m * (n / m % T) + n % m) := by
    rw [← Nat.mul_assoc, Nat.mul_comm m 2, Nat.mul_assoc, Nat.mul_mod_mul_left, Nat.mod_mul, Nat.add_comm]
  have e3 : (2 * (n / m) + (n % m != 0).toNat) / (2 * T) = n / m / T := by
    have : (2 * (n / m) + (n % m != 0).toNat) / 2 = n / m := by
      cases h : (n % m != 0) <;> simp <;> omega
    rw [← Nat.div_div_eq_div_mul, this]
  have e4 : (2 * (n / m) + (n % m != 0).toNat) % (2 * T) = 2 * (n / m % T) + (n % m != 0).toNat := by
    rw [Nat.mod_mul]
    cases h : (n % m != 0)
    · simp only [Bool.toNat_false, Nat.add_zero]
      rw [Nat.mul_div_cancel_left _ (by omega), Nat.mul_mod_right]; omega
    · simp only [Bool.toNat_true]
      have a1 : (2 * (n / m) + 1) % 2 = 1 := by omega
      have a2 : (2 * (n / m) + 1) / 2 = n / m := by omega
      rw [a1, a2]; omega
  unfold rne
  rw [e1, e2, e3, e4]
  congr 1
  generalize n / m = q at *
  generalize n % m = r at *
  obtain ⟨c, hc⟩ : ∃ c, q % T = c := ⟨_, rfl⟩
  rw [hc]
  have hcT : c < T := by rw [← hc]; exact Nat.mod_lt _ (by omega)
  by_cases h0 : r = 0
  · subst h0
    have f1 : (2 * T < 2 * (2 * c + ((0:Nat) != 0).toNat)) ↔ (m * (2 * T) < 2 * (2 * (m * c + 0))) := by
      simp only [bne_self_eq_false, Bool.toNat_false, Nat.add_zero]
      constructor
      · intro h
        have := Nat.mul_lt_mul_of_pos_left h hm
        calc m * (2 * T) < m * (2 * (2 * c)) := this
          _ = _ := by simp only [Nat.mul_assoc, Nat.mul_comm, Nat.mul_left_comm]
      · intro h
        refine Nat.lt_of_mul_lt_mul_left (a := m) ?_
        calc m * (2 * T) < 2 * (2 * (m * c)) := h
          _ = _ := by simp only [Nat.mul_assoc, Nat.mul_comm, Nat.mul_left_comm]
    have f2 : (2 * T = 2 * (2 * c + ((0:Nat) != 0).toNat)) ↔ (m * (2 * T) = 2 * (2 * (m * c + 0))) := by
      simp only [bne_self_eq_false, Bool.toNat_false, Nat.add_zero]
      have e : 2 * (2 * (m * c)) = m * (2 * (2 * c)) := by simp only [Nat.mul_assoc, Nat.mul_comm, Nat.mul_left_comm]
      rw [e]
      exact (Nat.mul_right_inj (by omega)).symm
    simp only [f1, f2]
  · have hs : (r != 0).toNat = 1 := by simp [h0]
    rw [hs]
    have g2 : ¬ (2 * T = 2 * (2 * c + 1)) := by omega
    have g3 : ¬ (m * (2 * T) = 2 * (2 * (m * c + r))) := by
      intro h
      by_cases hTc : T ≤ 2 * c
      · have : m * (2 * T) ≤ m * (2 * (2 * c)) := Nat.mul_le_mul_left _ (by omega)
        have e : m * (2 * (2 * c)) = 2 * (2 * (m * c)) := by simp only [Nat.mul_assoc, Nat.mul_comm, Nat.mul_left_comm]
        omega
      · have : m * (2 * (2 * c + 2)) ≤ m * (2 * T) := Nat.mul_le_mul_left _ (by omega)
        have e : m * (2 * (2 * c + 2)) = 2 * (2 * (m * c)) + 4 * m := by
          rw [Nat.mul_add 2, Nat.mul_add m]
          have : m * (2 * (2 * c)) = 2 * (2 * (m * c)) := by simp only [Nat.mul_assoc, Nat.mul_comm, Nat.mul_left_comm]
          omega
        omega
    have g1 : (2 * T < 2 * (2 * c + 1)) ↔ (m * (2 * T) < 2 * (2 * (m * c + r))) := by
      constructor
      · intro h
        have : m * (2 * T) ≤ m * (2 * (2 * c)) := Nat.mul_le_mul_left _ (by omega)
        have e : m * (2 * (2 * c)) = 2 * (2 * (m * c)) := by simp only [Nat.mul_assoc, Nat.mul_comm, Nat.mul_left_comm]
        omega
      · intro h
        refine Classical.byContradiction (fun hn => ?_)
        have : m * (2 * (2 * c + 2)) ≤ m * (2 * T) := Nat.mul_le_mul_left _ (by omega)
        have e : m * (2 * (2 * c + 2)) = 2 * (2 * (m * c)) + 4 * m := by
          rw [Nat.mul_add 2, Nat.mul_add m]
          have : m * (2 * (2 * c)) = 2 * (2 * (m * c)) := by simp only [Nat.mul_assoc, Nat.mul_comm, Nat.mul_left_comm]
          omega
        omega
    simp only [g1, g2, g3, false_and]
theorem log2_bounds {m : Nat} (h : 0 < m) : 2 ^ m.log2 ≤ m ∧ m < 2 ^ (m.log2 + 1) := ⟨Nat.log2_self_le (by omega), Nat.lt_log2_self⟩
theorem log2_of {m l : Nat} (h1 : 2 ^ l ≤ m) (h2 : m < 2 ^ (l + 1)) : m.log2 = l := by
  have h0 : m ≠ 0 := by have : 0 < 2 ^ l := Nat.pow_pos (by omega); omega
  exact (Nat.log2_eq_iff h0).2 ⟨h1, h2⟩
/-- The word that 'nearest' gives, where it is a normal number. -/
theorem nearest_word (mag : Nat) (place : Int) (h0 : 0 < mag) (hl : -1074 ≤ place + mag.log2 - 52) (hu : place + mag.log2 - 52 ≤ 960) :
    Ieee.double.nearest false mag place = (place + mag.log2 - 52 + 1074).toNat * 2 ^ 52 + rne (mag * 2 ^ (52 - mag.log2)) (2 ^ (mag.log2 - 52)) := by
  have hlp : Ieee.double.leastPlace = -1074 := by decide
  have hfb : Ieee.double.fractionBits = 52 := rfl
  have hbn : Ieee.double.binade = 2 ^ 52 := rfl
  have hinf : Ieee.double.infRung = 2047 * 2 ^ 52 := by decide
  have h00 : ¬ mag = 0 := by omega
  simp only [Ieee.Format.nearest, if_neg h00, hlp, hfb, hbn, hinf]
  have hlast : max (place + (mag.log2 : Int) - ((52:Nat):Int)) (-1074) = place + mag.log2 - 52 := by omega
  rw [hlast]
  have s1 : (place - (place + mag.log2 - 52)).toNat = 52 - mag.log2 := by omega
  have s2 : (place + mag.log2 - 52 - place).toNat = mag.log2 - 52 := by omega
  rw [s1, s2]
  have hsh : mag <<< (52 - mag.log2) = mag * 2 ^ (52 - mag.log2) := Nat.shiftLeft_eq ..
  rw [hsh]
  obtain ⟨b1, b2⟩ := log2_bounds h0
  have hcut : Ieee.Toward.even.cut false (mag * 2 ^ (52 - mag.log2)) (mag.log2 - 52) = rne (mag * 2 ^ (52 - mag.log2)) (2 ^ (mag.log2 - 52)) := by
    apply cut_rne
    by_cases h : mag.log2 ≤ 52
    · omega
    · have : 52 - mag.log2 = 0 := by omega
      rw [this, Nat.pow_zero, Nat.mul_one]; omega
  rw [hcut]
  have hb : mag * 2 ^ (52 - mag.log2) < 2 ^ 53 * 2 ^ (mag.log2 - 52) := by
    by_cases h : mag.log2 ≤ 52
    · have e : mag.log2 - 52 = 0 := by omega
      rw [e, Nat.pow_zero, Nat.mul_one]
      have : mag * 2 ^ (52 - mag.log2) < 2 ^ (mag.log2 + 1) * 2 ^ (52 - mag.log2) := Nat.mul_lt_mul_of_pos_right b2 (Nat.pow_pos (by omega))
      rw [← Nat.pow_add] at this
      have e2 : mag.log2 + 1 + (52 - mag.log2) = 53 := by omega
      rw [e2] at this; exact this
    · have e : 52 - mag.log2 = 0 := by omega
      rw [e, Nat.pow_zero, Nat.mul_one, ← Nat.pow_add]
      have e2 : 53 + (mag.log2 - 52) = mag.log2 + 1 := by omega
      rw [e2]; exact b2
  have hr := rne_le (Nat.pow_pos (by omega)) hb
  have hx : (place + mag.log2 - 52 - -1074).toNat = (place + mag.log2 - 52 + 1074).toNat := by omega
  have hE : (place + mag.log2 - 52 + 1074).toNat ≤ 2034 := by omega
  rw [hx]
  clear hcut hb hsh s1 s2 hlast hinf hbn hfb hlp b1 b2 hx
  generalize rne (mag * 2 ^ (52 - mag.log2)) (2 ^ (mag.log2 - 52)) = z at *
  generalize (place + mag.log2 - 52 + 1074).toNat = y at *
  have key : y * 2 ^ 52 + z ≤ 2047 * 2 ^ 52 := by
    have e : 2034 * 2 ^ 52 + 2 ^ 53 ≤ 2047 * 2 ^ 52 := by decide
    exact Nat.le_trans (Nat.add_le_add (Nat.mul_le_mul_right _ hE) hr) e
  simp only [Ieee.Format.word, Bool.false_eq_true, if_false]
  exact Nat.min_eq_left key
end Go.Proofs.Qxb6600776aDoor
