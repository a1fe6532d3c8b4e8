import Derived.Test.Qxb6600776aDoorSum
set_option linter.unusedSimpArgs false
set_option linter.unusedVariables false
set_option exponentiation.threshold 10000
namespace Go.Proofs.Qxb6600776aDoor

theorem nA_num (s : ByteArray) : num (dD s) (ds s s.size).length = nA s := nL_num (ds s s.size)
/-- The integer part's digits, and how many. -/
theorem int_digits {s : ByteArray} {d z : Nat} (h : Syn s) (hI : IntP s d z) : (ds s s.size).length = d + nK s ∧ ∀ j (hj : j < s.size), j < d → dD s j = s[j].toNat := by
  obtain ⟨h1, -, h3⟩ := ds_post h.gr h.od hI s.size hI.dl (Nat.le_refl _)
  exact ⟨h1, fun j hj hjd => by unfold dD; rw [h3 j hj hjd]⟩
theorem pow10_unique {A a b : Nat} (h1 : 10 ^ a ≤ A) (h2 : A < 10 ^ (a + 1)) (h3 : 10 ^ b ≤ A) (h4 : A < 10 ^ (b + 1)) : a = b := by
  have := pow_lt10 (Nat.lt_of_le_of_lt h1 h4)
  have := pow_lt10 (Nat.lt_of_le_of_lt h3 h2)
  omega
/-- With an integer part that is not zero: how many digits in all; the first two. -/
theorem int_part {s : ByteArray} {d z : Nat} (h : Syn s) (hI : IntP s d z) (hzd : z < d) (hzs : z < s.size) :
    0 < nA s ∧ 10 ^ (d - z + nK s - 1) ≤ nA s ∧ nA s < 10 ^ (d - z + nK s) ∧ (s[z].toNat - 48) * 10 ^ (d - z + nK s - 1) ≤ nA s ∧ 49 ≤ s[z].toNat ∧
    (∀ y (hy : y < s.size), y = z + 1 → y < d → ((s[z].toNat - 48) * 10 + (s[y].toNat - 48)) * 10 ^ (d - z + nK s - 2) ≤ nA s ∧ nA s < ((s[z].toNat - 48) * 10 + (s[y].toNat - 48) + 1) * 10 ^ (d - z + nK s - 2)) := by
  obtain ⟨hN, hD⟩ := int_digits h hI
  have hdig := dD_dig s h.gr
  rw [hN] at hdig
  have hnum := nA_num s
  rw [hN] at hnum
  have hz0 : num (dD s) z = 0 := by
    have := num_zeros (D := dD s) 0 z (fun i _ hi => by
      have hi' : i < z := by omega
      rw [hD i (by have := hI.dl; omega) (by omega)]
      exact hI.zer i (by have := hI.dl; omega) hi')
    rw [Nat.zero_add] at this
    rw [this]; simp [num]
  have hDz := hD z hzs hzd
  have hz48 := hI.one hzs hzd
  have hgz := h.gr z hzs
  have h46 := hI.bef z hzs hzd
  have hz1 : num (dD s) (z + 1) = s[z].toNat - 48 := by
    show num (dD s) z * 10 + (dD s z - 48) = _
    rw [hz0, hDz]; omega
  have s0 := num_split (D := dD s) z (d + nK s - z) (by rw [Nat.add_sub_cancel' (by omega)]; exact hdig)
  rw [Nat.add_sub_cancel' (by omega), hz0, hnum, Nat.zero_add, Nat.one_mul] at s0
  have s1 := num_split (D := dD s) (z + 1) (d + nK s - (z + 1)) (by rw [Nat.add_sub_cancel' (by omega)]; exact hdig)
  rw [Nat.add_sub_cancel' (by omega), hz1, hnum] at s1
  have e1 : d - z + nK s = d + nK s - z := by omega
  have e2 : d - z + nK s - 1 = d + nK s - (z + 1) := by omega
  have hlow : 1 * 10 ^ (d + nK s - (z + 1)) ≤ (s[z].toNat - 48) * 10 ^ (d + nK s - (z + 1)) := Nat.mul_le_mul_right _ (by omega)
  have hpp : 0 < 10 ^ (d + nK s - (z + 1)) := Nat.pow_pos (by omega)
  rw [e2, e1]
  refine ⟨by omega, by omega, s0.2, s1.1, by omega, fun y hy hyz hyd => ?_⟩
  subst hyz
  have hDy := hD (z + 1) hy hyd
  have hz2 : num (dD s) (z + 2) = (s[z].toNat - 48) * 10 + (s[z + 1].toNat - 48) := by
    show num (dD s) (z + 1) * 10 + (dD s (z + 1) - 48) = _
    rw [hz1, hDy]
  have s2 := num_split (D := dD s) (z + 2) (d + nK s - (z + 2)) (by rw [Nat.add_sub_cancel' (by omega)]; exact hdig)
  rw [Nat.add_sub_cancel' (by omega), hz2, hnum] at s2
  rw [show d + nK s - z - 2 = d + nK s - (z + 2) by omega]
  exact s2
/-- With an integer part of zeros. -/
theorem int_zero {s : ByteArray} {d z : Nat} (h : Syn s) (hI : IntP s d z) (hzd : z = d) : nA s < 10 ^ nK s := by
  obtain ⟨hN, hD⟩ := int_digits h hI
  have hdig := dD_dig s h.gr
  rw [hN] at hdig
  have hnum := nA_num s
  rw [hN] at hnum
  have hz0 : num (dD s) d = 0 := by
    have := num_zeros (D := dD s) 0 d (fun i _ hi => by
      rw [hD i (by have := hI.dl; omega) (by omega)]
      exact hI.zer i (by have := hI.dl; omega) (by omega))
    rw [Nat.zero_add] at this
    rw [this]; simp [num]
  have s0 := num_split (D := dD s) d (nK s) hdig
  rw [hz0, hnum] at s0
  simpa using s0.2
/-- The power p and the mantissa against the integer part. -/
theorem p_of {s : ByteArray} {d z : Nat} (h : Syn s) (hI : IntP s d z) (hzd : z < d) (hzs : z < s.size) (hn : 19 ≤ d - z) :
    rexp (rk s s.size) = ((d - z : Nat) : Int) - 19 ∧ (s[z].toNat - 48) * 1000000000000000000 ≤ (rk s s.size).m ∧ (rk s s.size).m < 10000000000000000000 ∧
    (∀ y (hy : y < s.size), y = z + 1 → y < d → ((s[z].toNat - 48) * 10 + (s[y].toNat - 48)) * 100000000000000000 ≤ (rk s s.size).m ∧ (rk s s.size).m < ((s[z].toNat - 48) * 10 + (s[y].toNat - 48) + 1) * 100000000000000000) := by
  obtain ⟨hA, a1, a2, a3, -, a5⟩ := int_part h hI hzd hzs
  obtain ⟨hr, -⟩ := rdn_of h hA
  have hm := hr.m
  have hp := hr.p
  have hlo := hr.lo
  have hhi := hr.hi
  have hnm1 := hr.nm1
  have hmb := hr.m_b.2
  have htt := hr.tt
  have h19 := hr.nm19
  generalize rexp (rk s s.size) = p at *
  generalize (rk s s.size).m = m at *
  generalize (rk s s.size).nd - (rk s s.size).nm = t at *
  generalize (rk s s.size).nm = nm at *
  have hu : nm + t - 1 = d - z + nK s - 1 := pow10_unique hlo (by rw [show nm + t - 1 + 1 = nm + t by omega]; exact hhi) a1 (by rw [show d - z + nK s - 1 + 1 = d - z + nK s by omega]; exact a2)
  have hnm : nm = 19 := by omega
  subst hnm
  have htp : 0 < 10 ^ t := Nat.pow_pos (by omega)
  have e18 : (10:Nat) ^ 18 = 1000000000000000000 := by decide
  have e17 : (10:Nat) ^ 17 = 100000000000000000 := by decide
  refine ⟨by omega, ?_, hmb, fun y hy hyz hyd => ?_⟩
  · rw [hm, Nat.le_div_iff_mul_le htp, Nat.mul_assoc, ← e18, ← Nat.pow_add, show 18 + t = d - z + nK s - 1 by omega]
    exact a3
  · obtain ⟨b1, b2⟩ := a5 y hy hyz hyd
    rw [show d - z + nK s - 2 = 17 + t by omega, Nat.pow_add, ← Nat.mul_assoc, e17] at b1 b2
    constructor
    · rw [hm, Nat.le_div_iff_mul_le htp]; exact b1
    · rw [hm, Nat.div_lt_iff_lt_mul htp]; exact b2
/-- Up to 308 digits before the dot: p is at most 289. -/
theorem p_small {s : ByteArray} {d z : Nat} (h : Syn s) (hI : IntP s d z) (hn : d - z ≤ 308) : rexp (rk s s.size) ≤ 289 := by
  by_cases hA : nA s = 0
  · have hm := (m_zero h hA).1
    unfold rexp; rw [if_pos hm]; omega
  · obtain ⟨hr, -⟩ := rdn_of h (by omega)
    have hp := hr.p
    have hlo := hr.lo
    have hnm1 := hr.nm1
    have htt := hr.tt
    generalize rexp (rk s s.size) = p at *
    generalize (rk s s.size).nd - (rk s s.size).nm = t at *
    generalize (rk s s.size).nm = nm at *
    have hup : nA s < 10 ^ (d - z + nK s) := by
      by_cases hzd : z < d
      · exact (int_part h hI hzd (by have := hI.dl; omega)).2.2.1
      · have e : z = d := by have := hI.zl; omega
        have := int_zero h hI e
        rw [e, Nat.sub_self, Nat.zero_add]; exact this
    have := pow_lt10 (Nat.lt_of_le_of_lt hlo hup)
    omega
end Go.Proofs.Qxb6600776aDoor
