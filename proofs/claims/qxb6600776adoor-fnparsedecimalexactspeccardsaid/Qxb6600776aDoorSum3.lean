import Derived.Test.Qxb6600776aDoorSum2
set_option linter.unusedSimpArgs false
set_option linter.unusedVariables false
set_option exponentiation.threshold 10000
namespace Go.Proofs.Qxb6600776aDoor

abbrev INF : Nat := 9218868437227405312
theorem near_lt {A B w : Nat} (h : Near A B w) (hB : 0 < B) (hA : A < 9007199254740992) : w < 9218868437227405312 := by
  obtain ⟨E, h1, h2, h3, h4, h5⟩ := h
  have hp : 0 < B * 2 ^ 1100 := Nat.mul_pos hB (Nat.pow_pos (by omega))
  have hr := rne_le hp h4
  have hE : E ≤ 1 := by
    refine Int.not_lt.1 (fun hlt => ?_)
    have k1 : 2 ^ 52 * (1 * 2 ^ 1100) ≤ A * 2 ^ (1100 - E).toNat := Nat.le_trans (Nat.mul_le_mul_left _ (Nat.mul_le_mul_right _ hB)) h3
    have k2 : A * 2 ^ (1100 - E).toNat < 2 ^ 53 * 2 ^ (1100 - E).toNat := Nat.mul_lt_mul_of_pos_right (by exact hA) (Nat.pow_pos (by omega))
    rw [Nat.one_mul, ← Nat.pow_add] at k1
    rw [← Nat.pow_add] at k2
    have := (Nat.pow_lt_pow_iff_right (by omega : 1 < 2)).1 (Nat.lt_of_le_of_lt k1 k2)
    omega
  have e52 : (2:Nat) ^ 52 = 4503599627370496 := by decide
  have e53 : (2:Nat) ^ 53 = 9007199254740992 := by decide
  rw [e53] at hr
  rw [h5, e52]
  generalize rne (A * 2 ^ (1100 - E).toNat) (B * 2 ^ 1100) = z at *
  omega
theorem ofInt_lt (m : Nat) (h : m < 4503599627370496) : floatOfInt .f64 (m : Int) < 9218868437227405312 := by
  by_cases h0 : m = 0
  · subst h0; decide +kernel
  · exact near_lt (near_ofInt m (by omega) (by omega)) (by omega) (by omega)
theorem quo_lt (m k b : Nat) (h : m < 4503599627370496) (hk : k ≤ 22) (hm0 : 0 < m) (hf : floatBits .quo .f64 (floatOfInt .f64 (m : Int)) (w10 k) = some b) : b < 9218868437227405312 := by
  obtain ⟨r, hr, hn⟩ := near_div m k hm0 (by omega) hk
  rw [hf] at hr
  cases hr
  exact near_lt hn (Nat.pow_pos (by omega)) (by omega)
theorem Z_le {a b : Int} (h : a ≤ b) (hb : -400 ≤ a) : Z a ≤ Z b := Nat.pow_le_pow_right (by omega) (by omega)
/-- Finite. -/
theorem at_fin {m : Nat} {p : Int} {tr : Bool} {b : Nat} {er : Bool} (h : AtOk m p tr b er) (hm : m < 10000000000000000000) (hp : p ≤ 289 ∨ (p = 290 ∧ m < 1700000000000000000)) : er = false ∧ b < 9218868437227405312 := by
  have pf : m ≠ 0 → -345 ≤ p → (pf64 m p).2 = false := fun h0 hl => by
    rcases hp with hp | ⟨hp, hm17⟩
    · by_cases h89 : p = 289
      · subst h89; exact pf_289 m (by omega) (by omega)
      · exact (pf64_shape m p (by omega) (by omega) hl (by omega)).2.2 (by omega)
    · subst hp; exact pf_290a m (by omega) (by omega)
  have fin : m ≠ 0 → -345 ≤ p → (b, er) = pf64 m p → er = false ∧ b < 9218868437227405312 := fun h0 hl he => by
    have h1 := pf h0 hl
    have h2 := (pf64_shape m p (by omega) (by omega) hl (by omega)).2.1 h1
    rw [← he] at h1 h2
    exact ⟨h1, h2⟩
  rcases h with ⟨-, hb, he⟩ | ⟨-, h, -⟩ | ⟨-, -, hb, he⟩ | ⟨h0, hl, -, -, h⟩ | ⟨h0, hl, -, -, h⟩
  · rw [hb]; exact ⟨he, by decide⟩
  · omega
  · rw [hb]; exact ⟨he, by decide⟩
  · rcases h with ⟨hx, he⟩ | ⟨hx, he⟩
    · refine ⟨he, ?_⟩
      rcases hx with ⟨-, hm52, ⟨-, hf⟩ | ⟨k, -, hk, -, hf⟩⟩ | ⟨hx, -⟩
      · rw [hf]; exact ofInt_lt m hm52
      · exact quo_lt m k b hm52 hk (by omega) hf
      · cases hx
    · exact fin h0 hl he
  · rcases h with he | ⟨-, P0, hP, hfb⟩
    · exact fin h0 hl he
    · have hPl : P0 < (m + 1) * 10 ^ 781 := by
        have := Nat.lt_mul_of_div_lt (a := P0) (b := m + 1) (c := 10 ^ 781) (by omega) (Nat.pow_pos (by omega))
        exact this
      have hX : P0 * Z (p + 19) < 17 * 10 ^ 1507 := by
        rcases hp with hp | ⟨hp, hm17⟩
        · have hz := Z_le (a := p + 19) (b := 308) (by omega) (by omega)
          have hz2 : Z 308 = 10 ^ 708 := rfl
          rw [hz2] at hz
          have h1 : (m + 1) * 10 ^ 781 ≤ 10000000000000000000 * 10 ^ 781 := Nat.mul_le_mul_right _ (by omega)
          have h2 : P0 * Z (p + 19) ≤ 10000000000000000000 * 10 ^ 781 * 10 ^ 708 := Nat.mul_le_mul (Nat.le_trans (Nat.le_of_lt hPl) h1) hz
          exact Nat.lt_of_le_of_lt h2 (by decide +kernel)
        · subst hp
          have hz2 : Z (290 + 19) = 10 ^ 709 := rfl
          rw [hz2]
          have h1 : (m + 1) * 10 ^ 781 ≤ 1700000000000000000 * 10 ^ 781 := Nat.mul_le_mul_right _ (by omega)
          have h2 : P0 < 1700000000000000000 * 10 ^ 781 := Nat.lt_of_lt_of_le hPl h1
          have h3 := Nat.mul_lt_mul_of_pos_right h2 (Nat.pow_pos (by omega) : 0 < 10 ^ 709)
          exact Nat.lt_of_lt_of_le h3 (by decide +kernel)
      have he := hfb.2.1 hX
      rcases hfb.1 with ⟨h1, -⟩ | ⟨-, h2⟩
      · rw [he] at h1; cases h1
      · exact ⟨he, h2⟩
/-- Out of range. -/
theorem at_inf {m : Nat} {p : Int} {tr : Bool} {b : Nat} {er : Bool} (h : AtOk m p tr b er) (hm : m < 10000000000000000000) (hm1 : 1000000000000000000 ≤ m) (hp : 291 ≤ p ∨ (p = 290 ∧ 2000000000000000000 ≤ m)) : er = true ∧ b = 9218868437227405312 := by
  have pf : ∀ x, m ≤ x → x ≤ m + 1 → p ≤ 310 → (pf64 x p).2 = true := fun x h1 h2 h310 => by
    rcases hp with hp | ⟨hp, hm2⟩
    · exact pf_291 x p (by omega) (by omega) hp h310
    · subst hp; exact pf_290b x (by omega) (by omega)
  have fin : p ≤ 310 → (b, er) = pf64 m p → er = true ∧ b = 9218868437227405312 := fun h310 he => by
    have h1 := pf m (by omega) (by omega) h310
    have h2 := (pf64_shape m p (by omega) (by omega) (by omega) h310).1 h1
    rw [← he] at h1 h2
    exact ⟨h1, h2⟩
  rcases h with ⟨h, -⟩ | ⟨-, -, hb, he⟩ | ⟨-, h, -⟩ | ⟨-, -, h310, -, h⟩ | ⟨-, -, h310, -, h⟩
  · omega
  · exact ⟨he, hb⟩
  · omega
  · rcases h with ⟨hx, he⟩ | ⟨hx, he⟩
    · rcases hx with ⟨-, hm52, -⟩ | ⟨hx, -⟩
      · omega
      · cases hx
    · exact fin h310 he
  · rcases h with he | ⟨hne, -⟩
    · exact fin h310 he
    · have := both_inf (m := m) (p := p) (by omega) (by omega) h310 hm (pf m (by omega) (by omega) h310) (pf (m + 1) (by omega) (by omega) h310)
      rw [this] at hne; cases hne
/-- The band. -/
theorem at_band {m : Nat} {tr : Bool} {b : Nat} {er : Bool} (h : AtOk m 290 tr b er) (hm1 : 1700000000000000000 ≤ m) (hm2 : m < 2000000000000000000) : (er = true → b = 9218868437227405312) ∧ (er = false → 9214871658872686752 ≤ b ∧ b < 9218868437227405312) := by
  have fin : (b, er) = pf64 m 290 → (er = true → b = 9218868437227405312) ∧ (er = false → 9214871658872686752 ≤ b ∧ b < 9218868437227405312) := fun he => by
    obtain ⟨s1, s2, -⟩ := pf64_shape m 290 (by omega) (by omega) (by omega) (by omega)
    have s3 := pf_band m hm1 (by omega)
    rw [← he] at s1 s2 s3
    exact ⟨s1, fun h => ⟨s3 h, s2 h⟩⟩
  rcases h with ⟨h, -⟩ | ⟨-, h, -⟩ | ⟨-, h, -⟩ | ⟨-, -, -, -, h⟩ | ⟨-, -, -, -, h⟩
  · omega
  · omega
  · omega
  · rcases h with ⟨hx, he⟩ | ⟨hx, he⟩
    · rcases hx with ⟨-, hm52, -⟩ | ⟨hx, -⟩
      · omega
      · cases hx
    · exact fin he
  · rcases h with he | ⟨-, P0, hP, hfb⟩
    · exact fin he
    · have hPl : m * 10 ^ 781 ≤ P0 := by rw [← hP]; exact Nat.div_mul_le_self _ _
      have hz2 : Z (290 + 19) = 10 ^ 709 := rfl
      rw [hz2] at hfb
      have hX : 17 * 10 ^ 1507 ≤ P0 * 10 ^ 709 := by
        have h1 : 1700000000000000000 * 10 ^ 781 ≤ P0 := Nat.le_trans (Nat.mul_le_mul_right _ hm1) hPl
        exact Nat.le_trans (by decide +kernel) (Nat.mul_le_mul_right (10 ^ 709) h1)
      rcases hfb.1 with ⟨h1, h2⟩ | ⟨h1, h2⟩
      · exact ⟨fun _ => h2, fun h => by rw [h] at h1; cases h1⟩
      · exact ⟨(fun h => by rw [h] at h1; cases h1), (fun h => ⟨hfb.2.2 hX h, h2⟩)⟩
end Go.Proofs.Qxb6600776aDoor
