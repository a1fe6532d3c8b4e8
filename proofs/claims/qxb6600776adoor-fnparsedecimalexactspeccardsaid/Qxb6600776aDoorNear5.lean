import Derived.Test.Qxb6600776aDoorNear4
set_option linter.unusedSimpArgs false
set_option linter.unusedVariables false
set_option exponentiation.threshold 10000
namespace Go.Proofs.Qxb6600776aDoor

theorem near_mul (d k : Nat) (h0 : 0 < d) (hd : d < 9007199254740992) (hk : k ≤ 22) : ∃ r, floatBits .mul .f64 (floatOfInt .f64 (d : Int)) (w10 k) = some r ∧ Near (d * 10 ^ k) 1 r := by
  obtain ⟨t1, t2, t3, t4, t5⟩ := ten_read ⟨k, by omega⟩
  simp only at t1 t2 t3 t4 t5
  obtain ⟨-, hl, m1a, m1b⟩ := ofInt_word d h0 hd
  have hr := read_ofInt d h0 hd
  obtain ⟨m1, hm1⟩ : ∃ m1, d * 2 ^ (52 - d.log2) = m1 := ⟨_, rfl⟩
  rw [hm1] at hr m1a m1b
  obtain ⟨m2, hm2⟩ : ∃ m2, tenM k = m2 := ⟨_, rfl⟩
  rw [hm2] at t1 t2 t3 t4
  obtain ⟨l1, hl1⟩ : ∃ l1, d.log2 = l1 := ⟨_, rfl⟩
  rw [hl1] at hr hl hm1
  obtain ⟨l2, hl2⟩ : ∃ l2, (10 ^ k).log2 = l2 := ⟨_, rfl⟩
  rw [hl2] at t1 t4 t5
  obtain ⟨mag, hmag⟩ : ∃ mag, mag = m1 * m2 := ⟨_, rfl⟩
  have hlo : 2 ^ 104 ≤ mag := by
    rw [hmag]
    exact Nat.le_trans (by decide : 2 ^ 104 ≤ 4503599627370496 * 4503599627370496) (Nat.mul_le_mul m1a t2)
  have hhi : mag < 2 ^ 106 := by
    rw [hmag]
    exact Nat.lt_of_lt_of_le (Nat.mul_lt_mul_of_lt_of_lt m1b t3) (by decide)
  have hmp : 0 < mag := by omega
  obtain ⟨b1, b2⟩ := log2_bounds hmp
  obtain ⟨lam, hlam⟩ : ∃ lam, mag.log2 = lam := ⟨_, rfl⟩
  rw [hlam] at b1 b2
  have lam1 : 104 ≤ lam := by
    refine Nat.le_of_not_lt (fun h => ?_)
    have : 2 ^ (lam + 1) ≤ 2 ^ 104 := Nat.pow_le_pow_right (by omega) (by omega)
    omega
  have lam2 : lam ≤ 105 := by
    refine Nat.le_of_not_lt (fun h => ?_)
    have : 2 ^ 106 ≤ 2 ^ lam := Nat.pow_le_pow_right (by omega) (by omega)
    omega
  obtain ⟨t, ht⟩ : ∃ t, lam = 52 + t := ⟨lam - 52, by omega⟩
  have hw := nearest_word mag ((l1 : Int) + l2 - 104) hmp (by rw [hlam]; omega) (by rw [hlam]; omega)
  rw [hlam, ht, show 52 - (52 + t) = 0 by omega, show 52 + t - 52 = t by omega, Nat.pow_zero, Nat.mul_one] at hw
  refine ⟨Ieee.double.nearest false mag ((l1 : Int) + l2 - 104), ?_, (l1 : Int) + l2 - 104 + t, ?_⟩
  · show Ieee.Format.mul Ieee.double _ _ = _
    unfold Ieee.Format.mul
    rw [hr, t1]
    simp only [Ieee.Datum.product, Option.map_some]
    have e2 : (l1 : Int) - 52 + ((l2 : Int) - 52) = (l1 : Int) + l2 - 104 := by omega
    rw [e2, ← hmag]
    rfl
  · rw [hw]
    have eE : ((l1 : Int) + l2 - 104 + ((52 + t : Nat) : Int) - 52 + 1074).toNat = ((l1 : Int) + l2 - 104 + t + 1074).toNat := by omega
    rw [eE]
    have p2t : (2:Nat) ^ lam = 2 ^ 52 * 2 ^ t := by rw [ht, Nat.pow_add]
    have p2u : (2:Nat) ^ (lam + 1) = 2 ^ 53 * 2 ^ t := by rw [ht, show 52 + t + 1 = 53 + t by omega, Nat.pow_add]
    refine nearE_of (by omega) (Nat.pow_pos (by omega)) (by omega) (by omega) ?_ ?_ ?_
    · have e3 : (1100 - ((l1 : Int) + l2 - 104 + t)).toNat + t + l2 = 1204 - l1 := by omega
      refine Nat.mul_right_cancel (Nat.pow_pos (by omega) : 0 < 2 ^ l2) ?_
      calc mag * (1 * 2 ^ 1100) * 2 ^ l2 = d * (m2 * 2 ^ l2) * (2 ^ (52 - l1) * 2 ^ 1100) := by
            rw [hmag, ← hm1]; simp only [Nat.one_mul, Nat.mul_assoc, Nat.mul_comm, Nat.mul_left_comm]
        _ = d * 10 ^ k * 2 ^ (1204 - l1) := by
            rw [t4, show 1204 - l1 = 52 + ((52 - l1) + 1100) by omega, Nat.pow_add 2 52, Nat.pow_add 2 (52 - l1)]
            simp only [Nat.mul_assoc]
        _ = d * 10 ^ k * 2 ^ (1100 - ((l1 : Int) + l2 - 104 + t)).toNat * 2 ^ t * 2 ^ l2 := by
            rw [← e3, Nat.pow_add, Nat.pow_add]; simp only [Nat.mul_assoc]
    · rw [← p2t]; exact b1
    · rw [← p2u]; exact b2

/-! The order of words. -/
/-- What a finite word is worth, in units of 2^-1074. -/
def wv (a : Nat) : Nat := if a < 4503599627370496 then a else (4503599627370496 + a % 4503599627370496) * 2 ^ (a / 4503599627370496 - 1)
theorem wv_step (a : Nat) : wv a < wv (a + 1) := by
  unfold wv
  by_cases h1 : a + 1 < 4503599627370496
  · rw [if_pos (by omega), if_pos h1]; omega
  · by_cases h2 : a < 4503599627370496
    · have e : a + 1 = 4503599627370496 := by omega
      rw [if_pos h2, if_neg h1, e]
      simp; omega
    · rw [if_neg h2, if_neg h1]
      by_cases h3 : (a + 1) % 4503599627370496 = 0
      · have e1 : (a + 1) / 4503599627370496 - 1 = (a / 4503599627370496 - 1) + 1 := by omega
        have e2 : a % 4503599627370496 = 4503599627370495 := by omega
        rw [h3, e1, e2, Nat.pow_succ]
        have : 0 < 2 ^ (a / 4503599627370496 - 1) := Nat.pow_pos (by omega)
        omega
      · have e1 : (a + 1) / 4503599627370496 = a / 4503599627370496 := by omega
        have e2 : (a + 1) % 4503599627370496 = a % 4503599627370496 + 1 := by omega
        rw [e1, e2]
        exact Nat.mul_lt_mul_of_pos_right (by omega) (Nat.pow_pos (by omega))
theorem wv_mono {a b : Nat} (h : a < b) : wv a < wv b := by
  obtain ⟨k, rfl⟩ : ∃ k, b = a + 1 + k := ⟨b - a - 1, by omega⟩
  induction k with
  | zero => exact wv_step a
  | succ k ih => exact Nat.lt_trans (ih (by omega)) (wv_step _)
theorem wv_cmp (a b : Nat) : compare (wv a) (wv b) = compare a b := by
  rcases Nat.lt_trichotomy a b with h | h | h
  · rw [Nat.compare_eq_lt.2 h, Nat.compare_eq_lt.2 (wv_mono h)]
  · subst h; simp
  · rw [Nat.compare_eq_gt.2 h, Nat.compare_eq_gt.2 (wv_mono h)]
/-- A finite word, read: its number is worth wv. -/
theorem read_fin (a : Nat) (h : a < 9218868437227405312) : ∃ m p, Ieee.double.read a = .number false m (-1074 + (p : Nat)) ∧ m * 2 ^ p = wv a := by
  have h1 : a / 9223372036854775808 = 0 := by omega
  have h2 : a % 9223372036854775808 = a := by omega
  by_cases h3 : a < 4503599627370496
  · refine ⟨a, 0, ?_, by unfold wv; rw [if_pos h3]; simp⟩
    simp only [Ieee.Format.read, fmt_bn, fmt_sw, fmt_inf, fmt_lp, h1, h2, if_pos h3]
    rfl
  · refine ⟨4503599627370496 + a % 4503599627370496, a / 4503599627370496 - 1, ?_, by unfold wv; rw [if_neg h3]⟩
    simp only [Ieee.Format.read, fmt_bn, fmt_sw, fmt_inf, fmt_lp, h1, h2, if_neg h3, if_pos h]
    rfl
theorem int_cmp (a b : Nat) : compare (a : Int) (b : Int) = compare a b := by
  simp only [compare, compareOfLessAndEq, Int.ofNat_lt, Int.ofNat_inj]
theorem order_fin (a b : Nat) (ha : a < 9218868437227405312) (hb : b < 9218868437227405312) : Ieee.double.order a b = some (compare a b) := by
  obtain ⟨m, p, h1, h2⟩ := read_fin a ha
  obtain ⟨n, q, k1, k2⟩ := read_fin b hb
  unfold Ieee.Format.order
  rw [h1, k1]
  simp only [Ieee.Datum.order, Ieee.signed, Bool.false_eq_true, if_false, Nat.shiftLeft_eq, int_cmp]
  congr 1
  rw [← wv_cmp a b, ← h2, ← k2]
  have key : ∀ (x y c : Nat), 0 < c → compare (x * c) (y * c) = compare x y := by
    intro x y c hc
    rcases Nat.lt_trichotomy x y with h | h | h
    · rw [Nat.compare_eq_lt.2 h, Nat.compare_eq_lt.2 (Nat.mul_lt_mul_of_pos_right h hc)]
    · subst h; simp
    · rw [Nat.compare_eq_gt.2 h, Nat.compare_eq_gt.2 (Nat.mul_lt_mul_of_pos_right h hc)]
  rw [← key _ _ (2 ^ min p q) (Nat.pow_pos (by omega)), Nat.mul_assoc, Nat.mul_assoc, ← Nat.pow_add, ← Nat.pow_add]
  congr 3
  · omega
  · omega
theorem order_inf (b : Nat) (hb : b < 9218868437227405312) : Ieee.double.order 9218868437227405312 b = some .gt := by
  obtain ⟨n, q, k1, k2⟩ := read_fin b hb
  have h : Ieee.double.read 9218868437227405312 = .infinity false := by decide +kernel
  unfold Ieee.Format.order
  rw [k1, h]
  rfl
end Go.Proofs.Qxb6600776aDoor
