import Derived.Test.Qxb6600776aDoorRange
set_option linter.unusedSimpArgs false
set_option linter.unusedVariables false
set_option exponentiation.threshold 10000
namespace Go.Proofs.Qxb6600776aDoor

theorem bl_ge (d b k : Nat) (h4 : d < 2 ^ b) (hk : 2 ^ k ≤ d) : k < b := by
  refine Nat.lt_of_not_le (fun h => ?_)
  have : 2 ^ b ≤ 2 ^ k := Nat.pow_le_pow_right (by omega) h
  omega
theorem bl_le (d b k : Nat) (h1 : 1 ≤ b) (h3 : 2 ^ (b - 1) ≤ d) (hk : d < 2 ^ k) : b ≤ k := by
  refine Nat.le_of_not_lt (fun h => ?_)
  have : 2 ^ k ≤ 2 ^ (b - 1) := Nat.pow_le_pow_right (by omega) (by omega)
  omega
theorem up_bound (x H L B : Nat) (hx : x ≤ B) (c : Nat) (hc : B * H / 18446744073709551616 / 256 + 1 < c) : usc x H L 8 < c := by
  have h1 := usc_hi x H L 8
  have h2 : x * H / 18446744073709551616 / 256 ≤ B * H / 18446744073709551616 / 256 := Nat.div_le_div_right (Nat.div_le_div_right (Nat.mul_le_mul_right _ hx))
  have e : (2:Nat) ^ 8 = 256 := by decide
  rw [e] at h1
  omega
theorem lo_bound (x H L B : Nat) (hx : B ≤ x) (c : Nat) (hc : c ≤ (B * H / 18446744073709551616 - 1) / 256) : c ≤ usc x H L 8 := by
  have h1 := usc_lo x H L 8
  have h2 : (B * H / 18446744073709551616 - 1) / 256 ≤ (x * H / 18446744073709551616 - 1) / 256 := Nat.div_le_div_right (Nat.sub_le_sub_right (Nat.div_le_div_right (Nat.mul_le_mul_right _ hx)) _)
  have e : (2:Nat) ^ 8 = 256 := by decide
  rw [e] at h1
  omega
theorem lo_any (x H L : Nat) (hx : 9223372036854775808 ≤ x) (hH : 9223372036854775808 ≤ H) : 18014398509481983 ≤ usc x H L 8 := by
  refine lo_bound x H L 9223372036854775808 hx _ ?_
  have : 9223372036854775808 * 9223372036854775808 ≤ 9223372036854775808 * H := Nat.mul_le_mul_left _ hH
  omega
theorem lg289 : lg 289 = 960 := by decide
theorem lg290 : lg 290 = 963 := by decide
theorem H289 : 10000000000000000000 * pHi 637 / 18446744073709551616 / 256 + 1 < 36028797018963966 := by decide +kernel
theorem H290a : 13600000000000000000 * pHi 638 / 18446744073709551616 / 256 + 1 < 36028797018963966 := by decide +kernel
theorem H290b : 36028797018963966 ≤ (16000000000000000000 * pHi 638 / 18446744073709551616 - 1) / 256 := by decide +kernel
theorem H290c : 33600000000000000 ≤ (13600000000000000000 * pHi 638 / 18446744073709551616 - 1) / 256 := by decide +kernel
/-- p = 289: finite. -/
theorem pf_289 (d : Nat) (h0 : 0 < d) (h : d ≤ 10000000000000000000) : (pf64 d 289).2 = false := by
  obtain ⟨b1, b2, b3, b4⟩ := bl_bounds d h0 (by omega)
  obtain ⟨b, hb⟩ : ∃ b, Lib.bitLen d = b := ⟨_, rfl⟩
  rw [hb] at b1 b2 b3 b4
  have hx := just_bounds d b b1 b2 b3 b4
  rw [pf64_eq d 289 b hb (-((b : Int) + 907)) (by rw [lg289]; omega) 8 (by rw [lg289]; omega) (by omega)]
  have hH := tab_top ⟨637, by omega⟩
  have hu := usc_le (d * 2 ^ (64 - b)) (pHi 637) (pLo 637) 8 hx.2 hH (by omega)
  obtain ⟨-, -, p3, p4, -, -⟩ := end_shape (usc (d * 2 ^ (64 - b)) (pHi 637) (pLo 637) 8) (-((b : Int) + 907)) hu
  by_cases h64 : b = 64
  · subst h64
    exact p4 (by omega) (up_bound _ _ _ 10000000000000000000 (by simpa using h) _ H289)
  · exact p3 (by omega)
/-- p = 290, up to 1.7e18: finite. -/
theorem pf_290a (d : Nat) (h0 : 0 < d) (h : d ≤ 1700000000000000000) : (pf64 d 290).2 = false := by
  obtain ⟨b1, b2, b3, b4⟩ := bl_bounds d h0 (by omega)
  obtain ⟨b, hb⟩ : ∃ b, Lib.bitLen d = b := ⟨_, rfl⟩
  rw [hb] at b1 b2 b3 b4
  have hx := just_bounds d b b1 b2 b3 b4
  have hb61 := bl_le d b 61 b1 b3 (by omega)
  rw [pf64_eq d 290 b hb (-((b : Int) + 910)) (by rw [lg290]; omega) 8 (by rw [lg290]; omega) (by omega)]
  have hH := tab_top ⟨638, by omega⟩
  have hu := usc_le (d * 2 ^ (64 - b)) (pHi 638) (pLo 638) 8 hx.2 hH (by omega)
  obtain ⟨-, -, p3, p4, -, -⟩ := end_shape (usc (d * 2 ^ (64 - b)) (pHi 638) (pLo 638) 8) (-((b : Int) + 910)) hu
  by_cases h61 : b = 61
  · subst h61
    exact p4 (by omega) (up_bound _ _ _ 13600000000000000000 (by show d * 2 ^ 3 ≤ _; omega) _ H290a)
  · exact p3 (by omega)
/-- p = 290, from 2e18: out of range. -/
theorem pf_290b (d : Nat) (h : 2000000000000000000 ≤ d) (hd : d < 18446744073709551616) : (pf64 d 290).2 = true := by
  obtain ⟨b1, b2, b3, b4⟩ := bl_bounds d (by omega) hd
  obtain ⟨b, hb⟩ : ∃ b, Lib.bitLen d = b := ⟨_, rfl⟩
  rw [hb] at b1 b2 b3 b4
  have hx := just_bounds d b b1 b2 b3 b4
  have hb61 := bl_ge d b 60 b4 (by omega)
  rw [pf64_eq d 290 b hb (-((b : Int) + 910)) (by rw [lg290]; omega) 8 (by rw [lg290]; omega) (by omega)]
  have hH := tab_top ⟨638, by omega⟩
  have hH2 := (tab_all ⟨638, by omega⟩).1
  have hu := usc_le (d * 2 ^ (64 - b)) (pHi 638) (pLo 638) 8 hx.2 hH (by omega)
  obtain ⟨-, -, -, -, p5, p6⟩ := end_shape (usc (d * 2 ^ (64 - b)) (pHi 638) (pLo 638) 8) (-((b : Int) + 910)) hu
  by_cases h61 : b = 61
  · subst h61
    exact p6 (by omega) (lo_bound _ _ _ 16000000000000000000 (by show _ ≤ d * 2 ^ 3; omega) _ H290b)
  · exact p5 (by omega) (lo_any _ _ _ hx.1 hH2)
/-- From p = 291 on, d of 19 digits: out of range. -/
theorem pf_291 (d : Nat) (p : Int) (h : 1000000000000000000 ≤ d) (hd : d < 18446744073709551616) (hp : 291 ≤ p) (hp1 : p ≤ 310) : (pf64 d p).2 = true := by
  obtain ⟨b1, b2, b3, b4⟩ := bl_bounds d (by omega) hd
  obtain ⟨b, hb⟩ : ∃ b, Lib.bitLen d = b := ⟨_, rfl⟩
  rw [hb] at b1 b2 b3 b4
  have hx := just_bounds d b b1 b2 b3 b4
  have hb60 := bl_ge d b 59 b4 (by omega)
  have hlg : lg p = p * 108853 / 32768 := rfl
  rw [pf64_eq d p b hb (53 - (b : Int) - lg p) (by omega) 8 (by omega) (by omega)]
  have hH := tab_top ⟨(p + 348).toNat, by omega⟩
  have hH2 := (tab_all ⟨(p + 348).toNat, by omega⟩).1
  have hu := usc_le (d * 2 ^ (64 - b)) (pHi (p + 348).toNat) (pLo (p + 348).toNat) 8 hx.2 hH (by omega)
  obtain ⟨-, -, -, -, p5, -⟩ := end_shape (usc (d * 2 ^ (64 - b)) (pHi (p + 348).toNat) (pLo (p + 348).toNat) 8) (53 - (b : Int) - lg p) hu
  exact p5 (by omega) (lo_any _ _ _ hx.1 hH2)
/-- The band. -/
theorem pf_band (d : Nat) (h : 1700000000000000000 ≤ d) (hd : d ≤ 2000000000000000000) (hf : (pf64 d 290).2 = false) : 9214871658872686752 ≤ (pf64 d 290).1 := by
  obtain ⟨b1, b2, b3, b4⟩ := bl_bounds d (by omega) (by omega)
  obtain ⟨b, hb⟩ : ∃ b, Lib.bitLen d = b := ⟨_, rfl⟩
  rw [hb] at b1 b2 b3 b4
  have hx := just_bounds d b b1 b2 b3 b4
  have hb61 := bl_ge d b 60 b4 (by omega)
  have hb61' := bl_le d b 61 b1 b3 (by omega)
  have e61 : b = 61 := by omega
  subst e61
  rw [pf64_eq d 290 61 hb (-971) (by rw [lg290]; omega) 8 (by rw [lg290]; omega) (by omega)] at hf ⊢
  have hH := tab_top ⟨638, by omega⟩
  have hu := usc_le (d * 2 ^ (64 - 61)) (pHi 638) (pLo 638) 8 hx.2 hH (by omega)
  have hlo := lo_bound (d * 2 ^ (64 - 61)) (pHi 638) (pLo 638) 13600000000000000000 (by show _ ≤ d * 2 ^ 3; omega) _ H290c
  show 9214871658872686752 ≤ (endV (usc (d * 2 ^ (64 - 61)) (pHi 638) (pLo 638) 8) (-971)).1
  replace hf : (endV (usc (d * 2 ^ (64 - 61)) (pHi 638) (pLo 638) 8) (-971)).2 = false := hf
  obtain ⟨-, -, -, -, -, p6⟩ := end_shape (usc (d * 2 ^ (64 - 61)) (pHi 638) (pLo 638) 8) (-971) hu
  generalize usc (d * 2 ^ (64 - 61)) (pHi 638) (pLo 638) 8 = u at *
  have hu2 : ¬ 36028797018963966 ≤ u := fun hh => by
    have := p6 (by omega) hh
    rw [hf] at this; cases this
  unfold endV
  rw [if_neg hu2]
  have hm := (rnd_b u).1
  unfold packV
  rw [if_neg (by omega), if_neg (by omega)]
  show _ ≤ (- -971 + 1075 : Int).toNat * 4503599627370496 + (rnd u - 4503599627370496)
  have : (- -971 + 1075 : Int).toNat = 2046 := by decide
  rw [this]
  omega
end Go.Proofs.Qxb6600776aDoor
