import Derived.Test.Qxb6600776aDoorUsc3
set_option linter.unusedSimpArgs false
set_option linter.unusedVariables false
set_option exponentiation.threshold 10000
namespace Go.Proofs.Qxb6600776aDoor

/-- -lg(-q), a natural number. -/
def gN (q : Nat) : Nat := (-(lg (-(q : Int)))).toNat
theorem tab_neg : ∀ j : Fin 40, lg (-((j.val + 1 : Nat) : Int)) = -(gN (j.val + 1) : Int) ∧ gN (j.val + 1) ≤ 133 ∧ 10 ^ (j.val + 1) ≤ 2 ^ gN (j.val + 1) ∧ 2 ^ gN (j.val + 1) < 2 * 10 ^ (j.val + 1) ∧
    2 ^ (127 + gN (j.val + 1)) + pLo (347 - j.val) * 10 ^ (j.val + 1) ≤ pHi (347 - j.val) * 18446744073709551616 * 10 ^ (j.val + 1) ∧
    pHi (347 - j.val) * 18446744073709551616 * 10 ^ (j.val + 1) < 2 ^ (127 + gN (j.val + 1)) + pLo (347 - j.val) * 10 ^ (j.val + 1) + 10 ^ (j.val + 1) := by decide +kernel
/-- How far the scaled value lies from a whole number. -/
def Far (a b : Nat) : Prop := a % b = 0 ∨ (∃ F, F ∣ a ∧ F ∣ b ∧ 73786976294838206464 * b ≤ F * 87112285931760246646623899502532662132736)
theorem far_use {a b : Nat} (hb : 0 < b) (h : Far a b) : a % b = 0 ∨ (∃ F, 73786976294838206464 * b ≤ F * 87112285931760246646623899502532662132736 ∧ F ≤ a % b ∧ a % b + F ≤ b) := by
  rcases h with h | ⟨F, h1, h2, h3⟩
  · exact Or.inl h
  · by_cases h0 : a % b = 0
    · exact Or.inl h0
    · refine Or.inr ⟨F, h3, ?_, ?_⟩
      · exact Nat.le_of_dvd (by omega) ((Nat.dvd_mod_iff h2).2 h1)
      · have hd : F ∣ b - a % b := Nat.dvd_sub h2 ((Nat.dvd_mod_iff h2).2 h1)
        have hlt := Nat.mod_lt a hb
        have := Nat.le_of_dvd (by omega) hd
        omega
theorem near_pf_neg (d q A B : Nat) (hq1 : 1 ≤ q) (hq2 : q ≤ 40) (h0 : 0 < d) (hd : d < 18446744073709551616) (hB : 0 < B) (hAB : d * B = A * 10 ^ q)
    (hfar : Far (A * 2 ^ (191 - Lib.bitLen d + gN q)) (87112285931760246646623899502532662132736 * B)) : (pf64 d (-(q : Int))).2 = false ∧ Near A B (pf64 d (-(q : Int))).1 := by
  obtain ⟨b1, b2, b3, b4⟩ := bl_bounds d h0 hd
  obtain ⟨b, hb⟩ : ∃ b, Lib.bitLen d = b := ⟨_, rfl⟩
  rw [hb] at b1 b2 b3 b4 hfar
  have hx := just_bounds d b b1 b2 b3 b4
  obtain ⟨t1, t2, t3, t4, t5, t6⟩ := tab_neg ⟨q - 1, by omega⟩
  simp only [show q - 1 + 1 = q by omega] at t1 t2 t3 t4 t5 t6
  rw [show 347 - (q - 1) = 348 - q by omega] at t5 t6
  obtain ⟨G, hG⟩ : ∃ G, gN q = G := ⟨_, rfl⟩
  rw [hG] at t1 t2 t3 t4 t5 t6 hfar
  rw [pf64_eq d (-(q : Int)) b hb (53 - (b : Int) + G) (by rw [t1]; omega) 8 (by rw [t1]; omega) (by omega)]
  have hidx : (-(q : Int) + 348).toNat = 348 - q := by omega
  rw [hidx]
  have hH := (tab_all ⟨348 - q, by omega⟩)
  simp only at hH
  obtain ⟨H, hHH⟩ : ∃ H, pHi (348 - q) = H := ⟨_, rfl⟩
  obtain ⟨L, hLL⟩ : ∃ L, pLo (348 - q) = L := ⟨_, rfl⟩
  rw [hHH, hLL] at hH t5 t6 ⊢
  obtain ⟨x, hxx⟩ : ∃ x, d * 2 ^ (64 - b) = x := ⟨_, rfl⟩
  rw [hxx] at hx ⊢
  obtain ⟨Y, hY⟩ : ∃ Y, 10 ^ q = Y := ⟨_, rfl⟩
  rw [hY] at t3 t4 t5 t6 hAB
  have hYp : 0 < Y := by rw [← hY]; exact Nat.pow_pos (by omega)
  obtain ⟨W0, hW0⟩ : ∃ W0, 2 ^ (127 + G) = W0 := ⟨_, rfl⟩
  rw [hW0] at t5 t6
  have hW1 : 170141183460469231731687303715884105728 * Y ≤ W0 := by
    rw [← hW0, Nat.pow_add]
    exact Nat.mul_le_mul (by decide) t3
  have hW2 : W0 < 340282366920938463463374607431768211456 * Y := by
    rw [← hW0, Nat.pow_add]
    calc 2 ^ 127 * 2 ^ G < 2 ^ 127 * (2 * Y) := Nat.mul_lt_mul_of_pos_left t4 (by decide)
      _ = _ := by rw [← Nat.mul_assoc]
  obtain ⟨err, herr⟩ : ∃ err, H * 18446744073709551616 * Y = W0 + L * Y + err := ⟨H * 18446744073709551616 * Y - (W0 + L * Y), by omega⟩
  have herrb : err < Y := by omega
  have hxW : x * W0 = d * 2 ^ (191 - b + G) := by
    rw [← hxx, ← hW0, Nat.mul_assoc, ← Nat.pow_add]; congr 2; omega
  obtain ⟨a, ha⟩ : ∃ a, A * 2 ^ (191 - b + G) = a := ⟨_, rfl⟩
  rw [ha] at hfar
  -- Y * a = x * W0 * B
  have hYa : Y * a = x * W0 * B := by
    rw [← ha, hxW]
    calc Y * (A * 2 ^ (191 - b + G)) = (A * Y) * 2 ^ (191 - b + G) := by simp only [Nat.mul_assoc, Nat.mul_comm, Nat.mul_left_comm]
      _ = (d * B) * 2 ^ (191 - b + G) := by rw [hAB]
      _ = _ := by simp only [Nat.mul_assoc, Nat.mul_comm, Nat.mul_left_comm]
  obtain ⟨S, hS⟩ : ∃ S, (87112285931760246646623899502532662132736 : Nat) = S := ⟨_, rfl⟩
  have hSB : 0 < S * B := Nat.mul_pos (by omega) hB
  have hdm := Nat.div_add_mod a (S * B)
  rw [hS] at hfar
  obtain ⟨c, hc⟩ : ∃ c, a / (S * B) = c := ⟨_, rfl⟩
  obtain ⟨z, hz⟩ : ∃ z, a % (S * B) = z := ⟨_, rfl⟩
  rw [hc, hz] at hdm
  have hYB : 0 < Y * B := Nat.mul_pos hYp hB
  have key : x * H * 18446744073709551616 * (Y * B) = (c * S + x * L) * (Y * B) + (Y * z + x * err * B) := by
    calc x * H * 18446744073709551616 * (Y * B) = x * (H * 18446744073709551616 * Y) * B := by simp only [Nat.mul_assoc, Nat.mul_comm, Nat.mul_left_comm]
      _ = x * (W0 + L * Y + err) * B := by rw [herr]
      _ = x * W0 * B + x * L * (Y * B) + x * err * B := by simp only [Nat.mul_add, Nat.add_mul, Nat.mul_assoc, Nat.mul_comm, Nat.mul_left_comm]
      _ = Y * a + x * L * (Y * B) + x * err * B := by rw [hYa]
      _ = Y * (S * B * c + z) + x * L * (Y * B) + x * err * B := by rw [hdm]
      _ = _ := by
        have : Y * (S * B * c + z) = c * S * (Y * B) + Y * z := by
          rw [Nat.mul_add]; congr 1; simp only [Nat.mul_assoc, Nat.mul_comm, Nat.mul_left_comm]
        rw [this, Nat.add_mul]; omega
  have hge : c * S + x * L ≤ x * H * 18446744073709551616 := by
    refine Nat.le_of_mul_le_mul_right ?_ hYB
    rw [key]; exact Nat.le_add_right _ _
  obtain ⟨ε, hε⟩ : ∃ ε, x * H * 18446744073709551616 = c * S + ε + x * L := ⟨x * H * 18446744073709551616 - (c * S + x * L), by omega⟩
  have heps : ε * (Y * B) = Y * z + x * err * B := by
    have : (c * S + ε + x * L) * (Y * B) = (c * S + x * L) * (Y * B) + ε * (Y * B) := by rw [← Nat.add_mul]; congr 1; omega
    rw [hε, this] at key
    omega
  have hxe : x * err * B ≤ 18446744073709551615 * (Y * B) := by
    rw [Nat.mul_assoc]
    exact Nat.mul_le_mul (by omega) (Nat.mul_le_mul_right _ (by omega))
  have hrange : ε < 18446744073709551616 ∨ (73786976294838206464 ≤ ε ∧ ε + 36893488147419103232 ≤ 87112285931760246646623899502532662132736) := by
    rcases far_use hSB hfar with h | ⟨F, f1, f2, f3⟩
    · left
      rw [hz] at h
      rw [h, Nat.mul_zero, Nat.zero_add] at heps
      have : ε * (Y * B) ≤ 18446744073709551615 * (Y * B) := by rw [heps]; exact hxe
      have := Nat.le_of_mul_le_mul_right this hYB
      omega
    · right
      rw [hz] at f2 f3
      -- 2^66 * B ≤ F
      have f4 : 73786976294838206464 * B ≤ F := by
        rw [hS] at f1
        refine Nat.le_of_mul_le_mul_right ?_ (show 0 < S by omega)
        calc 73786976294838206464 * B * S = 73786976294838206464 * (S * B) := by simp only [Nat.mul_assoc, Nat.mul_comm, Nat.mul_left_comm]
          _ ≤ _ := f1
      constructor
      · refine Nat.le_of_mul_le_mul_right ?_ hYB
        rw [heps]
        calc 73786976294838206464 * (Y * B) = Y * (73786976294838206464 * B) := by simp only [Nat.mul_assoc, Nat.mul_comm, Nat.mul_left_comm]
          _ ≤ Y * z := Nat.mul_le_mul_left _ (by omega)
          _ ≤ _ := Nat.le_add_right _ _
      · have g1 : ε * (Y * B) + 73786976294838206464 * (Y * B) ≤ (S + 18446744073709551615) * (Y * B) := by
          rw [heps]
          have g2 : Y * z + Y * (73786976294838206464 * B) ≤ Y * (S * B) := by rw [← Nat.mul_add]; exact Nat.mul_le_mul_left _ (by omega)
          have g3 : Y * (73786976294838206464 * B) = 73786976294838206464 * (Y * B) := by simp only [Nat.mul_assoc, Nat.mul_comm, Nat.mul_left_comm]
          have g4 : Y * (S * B) = S * (Y * B) := by simp only [Nat.mul_assoc, Nat.mul_comm, Nat.mul_left_comm]
          rw [Nat.add_mul]
          omega
        rw [← Nat.add_mul] at g1
        have := Nat.le_of_mul_le_mul_right g1 hYB
        rw [← hS] at this
        omega
  have hus := usc_exact x H L c ε hx.2 hH.2.2 (by rw [hS]; exact hε) hrange
  have hif : (if ε < 18446744073709551616 then 0 else 1 : Nat) = if a % (S * B) = 0 then 0 else 1 := by
    rw [hz]
    by_cases h0 : z = 0
    · have : ε < 18446744073709551616 := by
        rw [h0, Nat.mul_zero, Nat.zero_add] at heps
        have : ε * (Y * B) ≤ 18446744073709551615 * (Y * B) := by rw [heps]; exact hxe
        have := Nat.le_of_mul_le_mul_right this hYB
        omega
      rw [if_pos this, if_pos h0]
    · have : ¬ ε < 18446744073709551616 := by
        rcases far_use hSB hfar with h | ⟨F, f1, f2, f3⟩
        · exact absurd (hz.symm.trans h) h0
        · rw [hz] at f2
          have f4 : 73786976294838206464 * B ≤ F := by
            rw [hS] at f1
            refine Nat.le_of_mul_le_mul_right ?_ (show 0 < S by omega)
            calc 73786976294838206464 * B * S = 73786976294838206464 * (S * B) := by simp only [Nat.mul_assoc, Nat.mul_comm, Nat.mul_left_comm]
              _ ≤ _ := f1
          have : 73786976294838206464 ≤ ε := by
            refine Nat.le_of_mul_le_mul_right ?_ hYB
            rw [heps]
            calc 73786976294838206464 * (Y * B) = Y * (73786976294838206464 * B) := by simp only [Nat.mul_assoc, Nat.mul_comm, Nat.mul_left_comm]
              _ ≤ Y * z := Nat.mul_le_mul_left _ (by omega)
              _ ≤ _ := Nat.le_add_right _ _
          omega
      rw [if_neg this, if_neg h0]
  rw [hus, hif, ← hc]
  refine near_end A B a (S * B) (53 - (b : Int) + G) hB hSB (by omega) (by omega) ?_ ?_ ?_
  · rw [← ha, ← hS, ← e136]
    calc A * 2 ^ (191 - b + G) * (B * 2 ^ 1100) = A * B * (2 ^ (191 - b + G) * 2 ^ 1100) := by simp only [Nat.mul_assoc, Nat.mul_comm, Nat.mul_left_comm]
      _ = A * B * (2 ^ (1102 + (53 - (b : Int) + G)).toNat * 2 ^ 136) := by
        rw [← Nat.pow_add, ← Nat.pow_add]; congr 2; omega
      _ = _ := by simp only [Nat.mul_assoc, Nat.mul_comm, Nat.mul_left_comm]
  · refine Nat.le_of_mul_le_mul_left ?_ hYp
    rw [hYa, ← hS]
    have h1 : 9223372036854775808 * (170141183460469231731687303715884105728 * Y) ≤ x * W0 := Nat.mul_le_mul hx.1 hW1
    have h2 := Nat.mul_le_mul_right B h1
    calc Y * (18014398509481984 * (87112285931760246646623899502532662132736 * B)) = 9223372036854775808 * (170141183460469231731687303715884105728 * Y) * B := by
          have : (18014398509481984 : Nat) * 87112285931760246646623899502532662132736 = 9223372036854775808 * 170141183460469231731687303715884105728 := by decide
          calc Y * (18014398509481984 * (87112285931760246646623899502532662132736 * B)) = (18014398509481984 * 87112285931760246646623899502532662132736) * (Y * B) := by simp only [Nat.mul_assoc, Nat.mul_comm, Nat.mul_left_comm]
            _ = (9223372036854775808 * 170141183460469231731687303715884105728) * (Y * B) := by rw [this]
            _ = _ := by simp only [Nat.mul_assoc, Nat.mul_comm, Nat.mul_left_comm]
      _ ≤ _ := h2
  · refine Nat.lt_of_mul_lt_mul_left (a := Y) ?_
    rw [hYa, ← hS]
    have h1 : x * W0 < 18446744073709551616 * (340282366920938463463374607431768211456 * Y) := Nat.mul_lt_mul_of_lt_of_lt hx.2 hW2
    have h2 := Nat.mul_lt_mul_of_pos_right h1 hB
    calc x * W0 * B < _ := h2
      _ = Y * (72057594037927936 * (87112285931760246646623899502532662132736 * B)) := by
          have : (72057594037927936 : Nat) * 87112285931760246646623899502532662132736 = 18446744073709551616 * 340282366920938463463374607431768211456 := by decide
          symm
          calc Y * (72057594037927936 * (87112285931760246646623899502532662132736 * B)) = (72057594037927936 * 87112285931760246646623899502532662132736) * (Y * B) := by simp only [Nat.mul_assoc, Nat.mul_comm, Nat.mul_left_comm]
            _ = (18446744073709551616 * 340282366920938463463374607431768211456) * (Y * B) := by rw [this]
            _ = _ := by simp only [Nat.mul_assoc, Nat.mul_comm, Nat.mul_left_comm]
end Go.Proofs.Qxb6600776aDoor
