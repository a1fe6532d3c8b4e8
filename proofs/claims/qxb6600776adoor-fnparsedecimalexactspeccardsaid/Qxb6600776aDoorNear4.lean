import Derived.Test.Qxb6600776aDoorNear3
set_option linter.unusedSimpArgs false
set_option linter.unusedVariables false
set_option exponentiation.threshold 10000
namespace Go.Proofs.Qxb6600776aDoor

theorem near_ofInt (d : Nat) (h0 : 0 < d) (hd : d < 9007199254740992) : Near d 1 (floatOfInt .f64 (d : Int)) := by
  obtain ⟨h1, h2, h3, h4⟩ := ofInt_word d h0 hd
  refine ⟨(d.log2 : Int) - 52, ?_⟩
  have hr : rne (d * 2 ^ (52 - d.log2)) 1 = d * 2 ^ (52 - d.log2) := by unfold rne; simp [Nat.mod_one]
  have := nearE_of (A := d) (B := 1) (a := d * 2 ^ (52 - d.log2)) (b := 1) (E := (d.log2 : Int) - 52) (by omega) (by omega) (by omega) (by omega) (by
    rw [Nat.one_mul, Nat.mul_one, Nat.mul_assoc, ← Nat.pow_add]
    congr 2; omega) (by rw [Nat.mul_one]; exact h3) (by rw [Nat.mul_one]; exact h4)
  rw [hr] at this
  have e : ((d.log2 : Int) - 52 + 1074).toNat = 1022 + d.log2 := by omega
  rw [e] at this
  rw [h1]; exact this
theorem log2_52 {m : Nat} (h1 : 4503599627370496 ≤ m) (h2 : m < 9007199254740992) : m.log2 = 52 := log2_of (by exact h1) (by exact h2)
theorem near_div (d k : Nat) (h0 : 0 < d) (hd : d < 9007199254740992) (hk : k ≤ 22) : ∃ r, floatBits .quo .f64 (floatOfInt .f64 (d : Int)) (w10 k) = some r ∧ Near d (10 ^ k) r := by
  obtain ⟨t1, t2, t3, t4, t5⟩ := ten_read ⟨k, by omega⟩
  simp only at t1 t2 t3 t4 t5
  obtain ⟨-, hl, m1a, m1b⟩ := ofInt_word d h0 hd
  have hr := read_ofInt d h0 hd
  obtain ⟨m1, hm1⟩ : ∃ m1, d * 2 ^ (52 - d.log2) = m1 := ⟨_, rfl⟩
  rw [hm1] at hr m1a m1b
  obtain ⟨m2, hm2⟩ : ∃ m2, tenM k = m2 := ⟨_, rfl⟩
  rw [hm2] at t1 t2 t3 t4
  obtain ⟨l1, hl1⟩ : ∃ l1, d.log2 = l1 := ⟨_, rfl⟩
  rw [hl1] at hr hl hm1
  obtain ⟨l2, hl2⟩ : ∃ l2, (10 ^ k).log2 = l2 := ⟨_, rfl⟩
  rw [hl2] at t1 t4 t5
  have g1 := log2_52 m1a m1b
  have g2 := log2_52 t2 t3
  obtain ⟨n, hn⟩ : ∃ n, n = m1 * 2 ^ 54 := ⟨_, rfl⟩
  obtain ⟨mag, hmag⟩ : ∃ mag, mag = 2 * (n / m2) + (n % m2 != 0).toNat := ⟨_, rfl⟩
  have hs1 : (n % m2 != 0).toNat ≤ 1 := by cases (n % m2 != 0) <;> simp
  have hm2p : 0 < m2 := by omega
  have hq := Nat.div_mul_le_self n m2
  have hq2 : n < (n / m2 + 1) * m2 := Nat.lt_mul_of_div_lt (Nat.lt_succ_self _) hm2p
  have hnlo : 2 ^ 53 * m2 ≤ n := by
    rw [hn]
    calc 2 ^ 53 * m2 ≤ 2 ^ 53 * (2 * m1) := Nat.mul_le_mul_left _ (by omega)
      _ = m1 * 2 ^ 54 := by omega
  have hnhi : n < 2 ^ 55 * m2 := by
    rw [hn]
    calc m1 * 2 ^ 54 < (2 * m2) * 2 ^ 54 := Nat.mul_lt_mul_of_pos_right (by omega) (by decide)
      _ = 2 ^ 55 * m2 := by omega
  have q1 : 2 ^ 53 ≤ n / m2 := (Nat.le_div_iff_mul_le hm2p).2 hnlo
  have q2 : n / m2 < 2 ^ 55 := (Nat.div_lt_iff_lt_mul hm2p).2 hnhi
  have hmp : 0 < mag := by omega
  obtain ⟨b1, b2⟩ := log2_bounds hmp
  obtain ⟨lam, hlam⟩ : ∃ lam, mag.log2 = lam := ⟨_, rfl⟩
  rw [hlam] at b1 b2
  have lam1 : 54 ≤ lam := by
    refine Nat.le_of_not_lt (fun h => ?_)
    have : 2 ^ (lam + 1) ≤ 2 ^ 54 := Nat.pow_le_pow_right (by omega) (by omega)
    omega
  have lam2 : lam ≤ 55 := by
    refine Nat.le_of_not_lt (fun h => ?_)
    have : 2 ^ 56 ≤ 2 ^ lam := Nat.pow_le_pow_right (by omega) (by omega)
    omega
  obtain ⟨t, ht⟩ : ∃ t, lam = 52 + t := ⟨lam - 52, by omega⟩
  have hw := nearest_word mag ((l1 : Int) - l2 - 55) hmp (by rw [hlam]; omega) (by rw [hlam]; omega)
  rw [hlam, ht, show 52 - (52 + t) = 0 by omega, show 52 + t - 52 = t by omega, Nat.pow_zero, Nat.mul_one, hmag, rne_sticky n m2 t hm2p (by omega)] at hw
  refine ⟨Ieee.double.nearest false mag ((l1 : Int) - l2 - 55), ?_, (l1 : Int) - l2 - 55 + t, ?_⟩
  · show Ieee.Format.div Ieee.double _ _ = _
    unfold Ieee.Format.div
    rw [hr, t1]
    have hm20 : ¬ m2 = 0 := by omega
    simp only [Ieee.Datum.quotient, if_neg hm20, Option.map_some]
    have e1 : Ieee.double.fractionBits + 2 + m2.log2 - m1.log2 = 54 := by rw [g1, g2]; rfl
    rw [e1, Nat.shiftLeft_eq, ← hn, ← hmag]
    have e2 : (l1 : Int) - 52 - ((l2 : Int) - 52) - ((54 : Nat) : Int) - 1 = (l1 : Int) - l2 - 55 := by omega
    rw [e2]
    rfl
  · rw [hmag, hw]
    have eE : ((l1 : Int) - l2 - 55 + ((52 + t : Nat) : Int) - 52 + 1074).toNat = ((l1 : Int) - l2 - 55 + t + 1074).toNat := by omega
    rw [eE]
    have p2t : (2:Nat) ^ lam = 2 ^ 52 * 2 ^ t := by rw [ht, Nat.pow_add]
    have p2u : (2:Nat) ^ (lam + 1) = 2 ^ 53 * 2 ^ t := by rw [ht, show 52 + t + 1 = 53 + t by omega, Nat.pow_add]
    refine nearE_of (Nat.pow_pos (by omega)) (Nat.mul_pos hm2p (Nat.pow_pos (by omega))) (by omega) (by omega) ?_ ?_ ?_
    · -- the ratio
      have e3 : (1100 - ((l1 : Int) - l2 - 55 + t)).toNat + t = 1155 - l1 + l2 := by omega
      calc 2 * n * (10 ^ k * 2 ^ 1100) = d * (10 ^ k * 2 ^ 52) * (2 ^ (52 - l1) * 2 ^ 1103) := by
            rw [hn, ← hm1]
            have : (2:Nat) ^ 1103 * 2 ^ 52 = 2 * 2 ^ 54 * 2 ^ 1100 := by decide +kernel
            calc 2 * (d * 2 ^ (52 - l1) * 2 ^ 54) * (10 ^ k * 2 ^ 1100) = d * 10 ^ k * 2 ^ (52 - l1) * (2 * 2 ^ 54 * 2 ^ 1100) := by simp only [Nat.mul_assoc, Nat.mul_comm, Nat.mul_left_comm]
              _ = d * 10 ^ k * 2 ^ (52 - l1) * (2 ^ 1103 * 2 ^ 52) := by rw [this]
              _ = _ := by simp only [Nat.mul_assoc, Nat.mul_comm, Nat.mul_left_comm]
        _ = d * (m2 * 2 ^ l2) * (2 ^ (1155 - l1)) := by
            rw [t4, ← Nat.pow_add, show 52 - l1 + 1103 = 1155 - l1 by omega]
        _ = d * m2 * 2 ^ (1155 - l1 + l2) := by rw [Nat.pow_add]; simp only [Nat.mul_assoc, Nat.mul_comm, Nat.mul_left_comm]
        _ = d * 2 ^ (1100 - ((l1 : Int) - l2 - 55 + t)).toNat * (m2 * 2 ^ t) := by
            rw [← e3, Nat.pow_add]; simp only [Nat.mul_assoc, Nat.mul_comm, Nat.mul_left_comm]
    · -- from below
      have hev : 2 ^ lam ≤ 2 * (n / m2) := by
        obtain ⟨v, hv⟩ : ∃ v, 2 ^ lam = 2 * v := ⟨2 ^ (lam - 1), by rw [show lam = lam - 1 + 1 by omega, Nat.pow_succ]; simp; omega⟩
        omega
      have h1 := Nat.mul_le_mul_right m2 hev
      rw [p2t] at h1
      calc 2 ^ 52 * (m2 * 2 ^ t) = 2 ^ 52 * 2 ^ t * m2 := by simp only [Nat.mul_assoc, Nat.mul_comm, Nat.mul_left_comm]
        _ ≤ 2 * (n / m2) * m2 := h1
        _ = 2 * (n / m2 * m2) := Nat.mul_assoc ..
        _ ≤ 2 * n := Nat.mul_le_mul_left _ hq
    · have hev : n / m2 + 1 ≤ 2 ^ lam := by
        rw [Nat.pow_succ] at b2
        omega
      have h1 : n < 2 ^ lam * m2 := Nat.lt_of_lt_of_le hq2 (Nat.mul_le_mul_right _ hev)
      calc 2 * n < 2 * (2 ^ lam * m2) := by omega
        _ = 2 ^ 53 * (m2 * 2 ^ t) := by
            rw [p2t]
            have : (2:Nat) ^ 53 = 2 * 2 ^ 52 := by decide
            rw [this]; simp only [Nat.mul_assoc, Nat.mul_comm, Nat.mul_left_comm]
end Go.Proofs.Qxb6600776aDoor
