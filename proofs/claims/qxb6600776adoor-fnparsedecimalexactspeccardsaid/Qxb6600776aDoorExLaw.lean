import Derived.Test.Qxb6600776aDoorUsc4
import Derived.Test.Qxb6600776aDoorNear5
import Derived.Test.Qxb6600776aDoorReader
import Derived.Test.Qxb6600776aDoorAtof
set_option linter.unusedSimpArgs false
set_option linter.unusedVariables false
set_option exponentiation.threshold 10000
namespace Go.Proofs.Qxb6600776aDoor

theorem pow_lt10 {a b : Nat} (h : 10 ^ a < 10 ^ b) : a < b := (Nat.pow_lt_pow_iff_right (by omega)).1 h
theorem pow_le10 {a b : Nat} (h : a ≤ b) : 10 ^ a ≤ 10 ^ b := Nat.pow_le_pow_right (by omega) h
/-- What the reader hands on of a number A > 0 with K digits behind the dot: t digits dropped. -/
structure RdN (A K m t nm : Nat) (p : Int) (tr : Bool) : Prop where
  nm1 : 1 ≤ nm
  nm19 : nm ≤ 19
  tt : t = 0 ∨ nm = 19
  lo : 10 ^ (nm + t - 1) ≤ A
  hi : A < 10 ^ (nm + t)
  m : m = A / 10 ^ t
  tr : tr = decide (A % 10 ^ t ≠ 0)
  p : p = (t : Int) - K
theorem RdN.m_lo {A K m t nm : Nat} {p : Int} {tr : Bool} (h : RdN A K m t nm p tr) : 10 ^ (nm - 1) ≤ m := by
  rw [h.m, Nat.le_div_iff_mul_le (Nat.pow_pos (by omega)), ← Nat.pow_add]
  have := h.nm1
  rw [show nm - 1 + t = nm + t - 1 by omega]; exact h.lo
theorem RdN.m_hi {A K m t nm : Nat} {p : Int} {tr : Bool} (h : RdN A K m t nm p tr) : m < 10 ^ nm := by
  rw [h.m, Nat.div_lt_iff_lt_mul (Nat.pow_pos (by omega)), ← Nat.pow_add]; exact h.hi
theorem RdN.m_b {A K m t nm : Nat} {p : Int} {tr : Bool} (h : RdN A K m t nm p tr) : 0 < m ∧ m < 10000000000000000000 := by
  have h1 := h.m_lo
  have h2 := h.m_hi
  have h3 : 0 < 10 ^ (nm - 1) := Nat.pow_pos (by omega)
  have h4 : 10 ^ nm ≤ 10 ^ 19 := pow_le10 h.nm19
  omega
/-- A number of few digits: nothing is lost. -/
theorem RdN.small {A K m t nm : Nat} {p : Int} {tr : Bool} (h : RdN A K m t nm p tr) (M z : Nat) (hM : M < 1000000000000000) (hA : A = M * 10 ^ z) : tr = false ∧ m * 10 ^ t = M * 10 ^ z := by
  have hmod : A % 10 ^ t = 0 := by
    rcases h.tt with h0 | h19
    · rw [h0, Nat.pow_zero, Nat.mod_one]
    · have h1 := h.lo
      rw [hA] at h1
      have h2 : M * 10 ^ z < 10 ^ 15 * 10 ^ z := Nat.mul_lt_mul_of_pos_right (by omega) (Nat.pow_pos (by omega))
      rw [← Nat.pow_add] at h2
      have h3 := pow_lt10 (Nat.lt_of_le_of_lt h1 h2)
      have h4 : t ≤ z := by omega
      rw [hA, show z = t + (z - t) by omega, Nat.pow_add, Nat.mul_left_comm]
      exact Nat.mul_mod_right _ _
  constructor
  · rw [h.tr, hmod]; simp
  · rw [← hA, h.m]
    exact Nat.div_mul_cancel (Nat.dvd_of_mod_eq_zero hmod)
theorem far_pow (M W k : Nat) (hk : k ≤ 22) (hW : 136 + k ≤ W) : Far (M * 2 ^ W) (87112285931760246646623899502532662132736 * 10 ^ k) := by
  refine Or.inr ⟨2 ^ (136 + k), ?_, ?_, ?_⟩
  · exact Nat.dvd_trans (Nat.pow_dvd_pow 2 hW) (Nat.dvd_mul_left _ _)
  · rw [← e136, show (10:Nat) = 2 * 5 by decide, Nat.mul_pow, Nat.pow_add, ← Nat.mul_assoc]
    exact Nat.dvd_mul_right _ _
  · have h5 : 5 ^ k ≤ 5 ^ 22 := Nat.pow_le_pow_right (by omega) hk
    rw [← e136, show (10:Nat) = 2 * 5 by decide, Nat.mul_pow, Nat.pow_add 2 136 k]
    calc 73786976294838206464 * (2 ^ 136 * (2 ^ k * 5 ^ k)) ≤ 73786976294838206464 * (2 ^ 136 * (2 ^ k * 5 ^ 22)) := Nat.mul_le_mul_left _ (Nat.mul_le_mul_left _ (Nat.mul_le_mul_left _ h5))
      _ = (73786976294838206464 * 5 ^ 22) * (2 ^ 136 * 2 ^ k) := by simp only [Nat.mul_assoc, Nat.mul_comm, Nat.mul_left_comm]
      _ ≤ 2 ^ 136 * (2 ^ 136 * 2 ^ k) := Nat.mul_le_mul_right _ (by decide)
      _ = _ := by simp only [Nat.mul_assoc, Nat.mul_comm, Nat.mul_left_comm]
theorem far_one (A W : Nat) (hW : 66 ≤ W) : Far (A * 2 ^ W) (87112285931760246646623899502532662132736 * 1) := by
  rw [Nat.mul_one]
  by_cases h : 136 ≤ W
  · left
    rw [← e136, show W = 136 + (W - 136) by omega, Nat.pow_add, Nat.mul_left_comm]
    exact Nat.mul_mod_right _ _
  · refine Or.inr ⟨2 ^ W, Nat.dvd_mul_left _ _, ?_, ?_⟩
    · rw [← e136]; exact Nat.pow_dvd_pow _ (by omega)
    · refine Nat.mul_le_mul_right _ ?_
      exact Nat.le_trans (by decide : 73786976294838206464 ≤ 2 ^ 66) (Nat.pow_le_pow_right (by omega) hW)
theorem gN_ge (q : Nat) (h1 : 1 ≤ q) (h2 : q ≤ 40) : 10 ^ q ≤ 2 ^ gN q := by
  obtain ⟨-, -, t3, -⟩ := tab_neg ⟨q - 1, by omega⟩
  simp only [show q - 1 + 1 = q by omega] at t3
  exact t3
/-- The word that the road without 'trunc' gives, where the value is A0 / B0. -/
theorem road_near {m : Nat} {p : Int} {b : Nat} {er : Bool} (hm0 : 0 < m) (hm : m < 10000000000000000000) (h : AtOk m p false b er) (hp1 : -40 ≤ p) (hp2 : p ≤ 18)
    (A0 B0 : Nat) (hB0 : 0 < B0) (hpos : ∀ P : Nat, p = (P : Int) → m * 10 ^ P * B0 = A0) (hneg : ∀ q : Nat, 1 ≤ q → p = -(q : Int) → m * B0 = A0 * 10 ^ q)
    (hfar : ∀ q : Nat, 1 ≤ q → q ≤ 40 → p = -(q : Int) → Far (A0 * 2 ^ (191 - Lib.bitLen m + gN q)) (87112285931760246646623899502532662132736 * B0)) : er = false ∧ Near A0 B0 b := by
  rcases h with ⟨h, -⟩ | ⟨-, h, -⟩ | ⟨-, h, -⟩ | ⟨-, -, -, -, h⟩ | ⟨-, -, -, h, -⟩
  · omega
  · omega
  · omega
  · rcases h with ⟨hx, he⟩ | ⟨hx, he⟩
    · refine ⟨he, ?_⟩
      rcases hx with ⟨-, hm52, hx⟩ | ⟨hx, -⟩
      · rcases hx with ⟨h0, hf⟩ | ⟨k, hk0, hk, hpk, hf⟩
        · have hn := near_ofInt m hm0 (by omega)
          rw [← hf] at hn
          obtain ⟨E, hE⟩ := hn
          have e1 := hpos 0 (by rw [h0]; rfl)
          rw [Nat.pow_zero, Nat.mul_one] at e1
          obtain ⟨n1, n2, n3, n4, n5⟩ := hE
          have hB1 : 0 < B0 := hB0
          refine ⟨E, ?_⟩
          rw [n5]
          have := nearE_of (A := A0) (B := B0) (a := m * 2 ^ (1100 - E).toNat) (b := 1 * 2 ^ 1100) (E := E) hB0 (by rw [Nat.one_mul]; exact Nat.pow_pos (by omega)) n1 n2 (by
            rw [← e1]; simp only [Nat.one_mul, Nat.mul_assoc, Nat.mul_comm, Nat.mul_left_comm]) n3 n4
          exact this
        · obtain ⟨r, hr, hn⟩ := near_div m k hm0 (by omega) hk
          rw [hf] at hr
          cases hr
          have e1 := hneg k hk0 hpk
          obtain ⟨E, hE⟩ := hn
          obtain ⟨n1, n2, n3, n4, n5⟩ := hE
          refine ⟨E, ?_⟩
          rw [n5]
          have := nearE_of (A := A0) (B := B0) (a := m * 2 ^ (1100 - E).toNat) (b := 10 ^ k * 2 ^ 1100) (E := E) hB0 (Nat.mul_pos (Nat.pow_pos (by omega)) (Nat.pow_pos (by omega))) n1 n2 (by
            calc m * 2 ^ (1100 - E).toNat * (B0 * 2 ^ 1100) = (m * B0) * 2 ^ (1100 - E).toNat * 2 ^ 1100 := by simp only [Nat.mul_assoc, Nat.mul_comm, Nat.mul_left_comm]
              _ = (A0 * 10 ^ k) * 2 ^ (1100 - E).toNat * 2 ^ 1100 := by rw [e1]
              _ = _ := by simp only [Nat.mul_assoc, Nat.mul_comm, Nat.mul_left_comm]) n3 n4
          exact this
      · cases hx
    · by_cases hps : 0 ≤ p
      · obtain ⟨P, rfl⟩ : ∃ P : Nat, p = (P : Int) := ⟨p.toNat, by omega⟩
        obtain ⟨f1, f2⟩ := near_pf_pos m P (by omega) hm0 (by omega)
        have e1 := hpos P rfl
        rw [← he] at f1 f2
        refine ⟨f1, ?_⟩
        obtain ⟨E, hE⟩ := f2
        obtain ⟨n1, n2, n3, n4, n5⟩ := hE
        refine ⟨E, ?_⟩
        show NearE A0 B0 E b
        rw [show b = _ from n5]
        have := nearE_of (A := A0) (B := B0) (a := m * 10 ^ P * 2 ^ (1100 - E).toNat) (b := 1 * 2 ^ 1100) (E := E) hB0 (by rw [Nat.one_mul]; exact Nat.pow_pos (by omega)) n1 n2 (by
          rw [← e1]; simp only [Nat.one_mul, Nat.mul_assoc, Nat.mul_comm, Nat.mul_left_comm]) n3 n4
        exact this
      · obtain ⟨q, rfl⟩ : ∃ q : Nat, p = -(q : Int) := ⟨(-p).toNat, by omega⟩
        obtain ⟨f1, f2⟩ := near_pf_neg m q A0 B0 (by omega) (by omega) hm0 (by omega) hB0 (hneg q (by omega) rfl) (hfar q (by omega) (by omega) rfl)
        rw [← he] at f1 f2
        exact ⟨f1, f2⟩
  · cases h
/-- The division's case. -/
theorem ex_div {A K m t nm : Nat} {p : Int} {tr : Bool} {b : Nat} {er : Bool} (h : RdN A K m t nm p tr) (hat : AtOk m p tr b er) (M k : Nat) (hM0 : 0 < M) (hM : M < 1000000000000000) (hk1 : 1 ≤ k) (hk : k ≤ 22) (hkK : k ≤ K)
    (hA : A = M * 10 ^ (K - k)) : er = false ∧ Near M (10 ^ k) b := by
  obtain ⟨htr, hmt⟩ := h.small M (K - k) hM hA
  obtain ⟨hm0, hm19⟩ := h.m_b
  rw [htr] at hat
  have hp := h.p
  have hlo := h.m_lo
  have hhi := h.m_hi
  -- K - t lies in [1, 40]
  have hM15 : M < 10 ^ 15 := by omega
  have c1 : t < K := by
    rcases h.tt with h0 | h19
    · omega
    · have h1 : 10 ^ (nm - 1) * 10 ^ t ≤ M * 10 ^ (K - k) := by rw [← hmt]; exact Nat.mul_le_mul_right _ hlo
      have h2 : M * 10 ^ (K - k) < 10 ^ 15 * 10 ^ (K - k) := Nat.mul_lt_mul_of_pos_right hM15 (Nat.pow_pos (by omega))
      rw [← Nat.pow_add] at h1 h2
      have := pow_lt10 (Nat.lt_of_le_of_lt h1 h2)
      omega
  have c2 : K ≤ t + 40 := by
    have h1 : 1 * 10 ^ (K - k) ≤ M * 10 ^ (K - k) := Nat.mul_le_mul_right _ hM0
    have h2 : m * 10 ^ t < 10 ^ nm * 10 ^ t := Nat.mul_lt_mul_of_pos_right hhi (Nat.pow_pos (by omega))
    rw [hmt, ← Nat.pow_add] at h2
    rw [Nat.one_mul] at h1
    have := pow_lt10 (Nat.lt_of_le_of_lt h1 h2)
    have := h.nm19
    omega
  obtain ⟨q, hq⟩ : ∃ q, K = t + q := ⟨K - t, by omega⟩
  have hpq : p = -(q : Int) := by omega
  have hAB : m * 10 ^ k = M * 10 ^ q := by
    refine Nat.mul_right_cancel (Nat.pow_pos (by omega) : 0 < 10 ^ t) ?_
    calc m * 10 ^ k * 10 ^ t = (m * 10 ^ t) * 10 ^ k := by simp only [Nat.mul_assoc, Nat.mul_comm, Nat.mul_left_comm]
      _ = M * 10 ^ (K - k) * 10 ^ k := by rw [hmt]
      _ = M * 10 ^ (q + t) := by rw [Nat.mul_assoc, ← Nat.pow_add]; congr 2; omega
      _ = _ := by rw [Nat.pow_add, Nat.mul_assoc]
  refine road_near hm0 hm19 hat (by omega) (by omega) M (10 ^ k) (Nat.pow_pos (by omega)) (fun P hP => by omega) (fun q' _ hq' => ?_) (fun q' h1 h2 hq' => ?_)
  · rw [show q' = q by omega]; exact hAB
  · have eq' : q' = q := by omega
    subst eq'
    refine far_pow M _ k hk ?_
    -- gN q ≥ b + k - 48
    obtain ⟨b1, b2, b3, b4⟩ := bl_bounds m hm0 (by omega)
    have g1 := gN_ge q' h1 h2
    have g2 : 2 ^ (Lib.bitLen m - 1) * 10 ^ k < 10 ^ 15 * 2 ^ gN q' := by
      calc 2 ^ (Lib.bitLen m - 1) * 10 ^ k ≤ m * 10 ^ k := Nat.mul_le_mul_right _ b3
        _ = M * 10 ^ q' := hAB
        _ < 10 ^ 15 * 10 ^ q' := Nat.mul_lt_mul_of_pos_right hM15 (Nat.pow_pos (by omega))
        _ ≤ _ := Nat.mul_le_mul_left _ g1
    have g3 : 2 ^ (Lib.bitLen m - 1 + k) < 2 ^ (50 + gN q') := by
      have : 2 ^ k ≤ 10 ^ k := Nat.pow_le_pow_left (by omega) k
      calc 2 ^ (Lib.bitLen m - 1 + k) = 2 ^ (Lib.bitLen m - 1) * 2 ^ k := Nat.pow_add ..
        _ ≤ 2 ^ (Lib.bitLen m - 1) * 10 ^ k := Nat.mul_le_mul_left _ this
        _ < 10 ^ 15 * 2 ^ gN q' := g2
        _ ≤ 2 ^ 50 * 2 ^ gN q' := Nat.mul_le_mul_right _ (by decide)
        _ = _ := (Nat.pow_add ..).symm
    have := (Nat.pow_lt_pow_iff_right (by omega : 1 < 2)).1 g3
    omega
/-- The product's case. -/
theorem ex_mul {A K m t nm : Nat} {p : Int} {tr : Bool} {b : Nat} {er : Bool} (h : RdN A K m t nm p tr) (hat : AtOk m p tr b er) (M e : Nat) (hM0 : 0 < M) (hM : M < 1000000000000000) (he : e ≤ 22)
    (hA : A = M * 10 ^ (K + e)) : er = false ∧ Near (M * 10 ^ e) 1 b := by
  obtain ⟨htr, hmt⟩ := h.small M (K + e) hM hA
  obtain ⟨hm0, hm19⟩ := h.m_b
  rw [htr] at hat
  have hp := h.p
  have hlo := h.m_lo
  have hhi := h.m_hi
  have hM15 : M < 10 ^ 15 := by omega
  have c1 : t ≤ K + 18 := by
    rcases h.tt with h0 | h19
    · omega
    · have h1 : 10 ^ (nm - 1) * 10 ^ t ≤ M * 10 ^ (K + e) := by rw [← hmt]; exact Nat.mul_le_mul_right _ hlo
      have h2 : M * 10 ^ (K + e) < 10 ^ 15 * 10 ^ (K + e) := Nat.mul_lt_mul_of_pos_right hM15 (Nat.pow_pos (by omega))
      rw [← Nat.pow_add] at h1 h2
      have := pow_lt10 (Nat.lt_of_le_of_lt h1 h2)
      omega
  have c2 : K ≤ t + 18 := by
    have h1 : 1 * 10 ^ (K + e) ≤ M * 10 ^ (K + e) := Nat.mul_le_mul_right _ hM0
    have h2 : m * 10 ^ t < 10 ^ nm * 10 ^ t := Nat.mul_lt_mul_of_pos_right hhi (Nat.pow_pos (by omega))
    rw [hmt, ← Nat.pow_add] at h2
    rw [Nat.one_mul] at h1
    have := pow_lt10 (Nat.lt_of_le_of_lt h1 h2)
    have := h.nm19
    omega
  refine road_near hm0 hm19 hat (by omega) (by omega) (M * 10 ^ e) 1 (by omega) (fun P hP => ?_) (fun q' _ hq' => ?_) (fun q' h1 h2 hq' => ?_)
  · have ht : t = K + P := by omega
    rw [Nat.mul_one]
    refine Nat.mul_right_cancel (Nat.pow_pos (by omega) : 0 < 10 ^ K) ?_
    calc m * 10 ^ P * 10 ^ K = m * 10 ^ t := by rw [Nat.mul_assoc, ← Nat.pow_add, ht]; congr 2; omega
      _ = M * 10 ^ (K + e) := hmt
      _ = _ := by rw [Nat.mul_assoc, ← Nat.pow_add]; congr 2; omega
  · have hK : K = t + q' := by omega
    rw [Nat.mul_one]
    refine Nat.mul_right_cancel (Nat.pow_pos (by omega) : 0 < 10 ^ t) ?_
    calc m * 10 ^ t = M * 10 ^ (K + e) := hmt
      _ = _ := by rw [Nat.mul_assoc, Nat.mul_assoc, ← Nat.pow_add, ← Nat.pow_add]; congr 2; omega
  · refine far_one _ _ ?_
    obtain ⟨b1, b2, b3, b4⟩ := bl_bounds m hm0 (by omega)
    omega
end Go.Proofs.Qxb6600776aDoor
