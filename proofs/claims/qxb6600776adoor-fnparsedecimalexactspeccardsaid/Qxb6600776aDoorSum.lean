import Derived.Test.Qxb6600776aDoorExLaw
import Derived.Test.Qxb6600776aDoorRange2
import Derived.Test.Qxb6600776aDoorLaw2
set_option linter.unusedSimpArgs false
set_option linter.unusedVariables false
set_option exponentiation.threshold 10000
namespace Go.Proofs.Qxb6600776aDoor

/-- A text of the grammar. -/
structure Syn (s : ByteArray) : Prop where
  sz : s.size ≤ 1048576
  gr : Gram s
  od : OneDot s
  dg : (rk s s.size).dig = true
def nA (s : ByteArray) : Nat := nL (ds s s.size)
def nK (s : ByteArray) : Nat := kf s s.size
theorem rdn_of {s : ByteArray} (h : Syn s) (hA : 0 < nA s) : RdN (nA s) (nK s) (rk s s.size).m ((rk s s.size).nd - (rk s s.size).nm) (rk s s.size).nm (rexp (rk s s.size)) (rk s s.size).tr ∧ rdp (rk s s.size) = rexp (rk s s.size) + (rk s s.size).nm := by
  have hl := rl_take h.gr h.od s.size (Nat.le_refl _)
  change RL (rk s s.size) (nA s) (nK s) at hl
  generalize rk s s.size = R at *
  have hnm := hl.nm
  have hnd : 0 < R.nd := by
    by_cases h0 : R.nd = 0
    · have := (hl.z h0).1; omega
    · omega
  obtain ⟨a, b, c, d, e⟩ := hl.p hnd
  have hm : R.m ≠ 0 := by
    rw [c]
    have : 10 ^ (R.nm - 1) ≤ nA s / 10 ^ (R.nd - R.nm) := by
      rw [Nat.le_div_iff_mul_le (Nat.pow_pos (by omega)), ← Nat.pow_add, show R.nm - 1 + (R.nd - R.nm) = R.nd - 1 by omega]; exact a
    have : 0 < 10 ^ (R.nm - 1) := Nat.pow_pos (by omega)
    omega
  have hp : rexp R = rdp R - R.nm := by unfold rexp rdp; rw [if_neg hm]
  have hdp : rdp R = (R.nd : Int) - nK s := by
    unfold rdp
    cases hd : R.dot with
    | true => simp only [if_true]; exact e hd
    | false => have := hl.nodot hd; simp only [Bool.false_eq_true, if_false]; omega
  refine ⟨⟨by omega, by omega, by omega, ?_, ?_, c, d, by omega⟩, by omega⟩
  · rw [show R.nm + (R.nd - R.nm) - 1 = R.nd - 1 by omega]; exact a
  · rw [show R.nm + (R.nd - R.nm) = R.nd by omega]; exact b
theorem m_zero {s : ByteArray} (h : Syn s) (hA : nA s = 0) : (rk s s.size).m = 0 ∧ (rk s s.size).tr = false := by
  have hl := rl_take h.gr h.od s.size (Nat.le_refl _)
  change RL (rk s s.size) (nA s) (nK s) at hl
  generalize rk s s.size = R at *
  by_cases h0 : R.nd = 0
  · exact ⟨(hl.z h0).2.1, (hl.z h0).2.2.1⟩
  · have := (hl.p (by omega)).1
    have : 0 < 10 ^ (R.nd - 1) := Nat.pow_pos (by omega)
    omega
/-- The reader's facts in plain variables. -/
theorem rd_of {s : ByteArray} (h : Syn s) : Rd s (rk s s.size).m (rexp (rk s s.size)) (rdp (rk s s.size)) (rk s s.size).tr := by
  have hI := rk_inv h.gr s.size (Nat.le_refl _)
  have hml := m_lt hI
  have hKl : nK s ≤ s.size := Nat.le_trans (kf_le s s.size) (ds_len s s.size)
  have hsz := h.sz
  refine ⟨h.sz, h.gr, h.od, h.dg, rfl, rfl, rfl, fun _ => rfl, hml, fun hp => ?_, ?_, fun htr => ?_⟩
  · by_cases hA : nA s = 0
    · have hm := (m_zero h hA).1
      unfold rexp at hp
      rw [if_pos hm] at hp; omega
    · obtain ⟨hr, -⟩ := rdn_of h (by omega)
      have h1 := hr.m_lo
      have h2 := hr.p
      rcases hr.tt with h0 | h19
      · omega
      · rw [h19] at h1
        have : (10:Nat) ^ (19 - 1) = 1000000000000000000 := by decide
        omega
  · by_cases hA : nA s = 0
    · have hm := (m_zero h hA).1
      unfold rexp
      rw [if_pos hm]; omega
    · obtain ⟨hr, -⟩ := rdn_of h (by omega)
      have h2 := hr.p
      have := hI.nd
      omega
  · have hA : 0 < nA s := by
      by_cases hA : nA s = 0
      · have := (m_zero h hA).2; rw [htr] at this; cases this
      · omega
    obtain ⟨hr, hdp⟩ := rdn_of h hA
    have ht := hr.tr
    rw [htr] at ht
    have hne : nA s % 10 ^ ((rk s s.size).nd - (rk s s.size).nm) ≠ 0 := of_decide_eq_true ht.symm
    have h19 : (rk s s.size).nm = 19 := by
      rcases hr.tt with h0 | h19
      · rw [h0, Nat.pow_zero, Nat.mod_one] at hne; exact absurd rfl hne
      · exact h19
    have := hr.m_b
    exact ⟨h19, by omega, by omega, by have := hI.le; omega⟩
theorem ord_inf_inf : Ieee.double.order 9218868437227405312 9218868437227405312 = some .eq := by decide +kernel
theorem quo_zero : ∀ k : Fin 23, (floatBits .quo .f64 (floatOfInt .f64 ((0 : Nat) : Int)) (w10 k.val)).isSome = true := by decide +kernel
theorem both_inf {m : Nat} {p : Int} (h1 : 1 ≤ m) (hp0 : -345 ≤ p) (hp1 : p ≤ 310) (hm : m < 10000000000000000000) (a : (pf64 m p).2 = true) (b : (pf64 (m + 1) p).2 = true) : (Ieee.double.order (pf64 m p).1 (pf64 (m + 1) p).1 == some .eq) = true := by
  rw [(pf64_shape m p (by omega) (by omega) hp0 hp1).1 a, (pf64_shape (m + 1) p (by omega) (by omega) hp0 hp1).1 b, ord_inf_inf]; rfl
theorem pl_of {s : ByteArray} (h : Syn s) : Pl (rk s s.size).m (rexp (rk s s.size)) (rk s s.size).tr := by
  have hR := rd_of h
  refine ⟨fun k hk0 hk hm => ?_, fun htr h1 h2 => ?_⟩
  · by_cases h0 : (rk s s.size).m = 0
    · have := quo_zero ⟨k, by omega⟩
      rw [h0]
      exact Option.isSome_iff_exists.1 this
    · obtain ⟨r, hr, -⟩ := near_div (rk s s.size).m k (by omega) (by omega) hk
      exact ⟨r, hr⟩
  · obtain ⟨t1, t2, -, -⟩ := hR.t19 htr
    have hA : 0 < nA s := by
      by_cases hA : nA s = 0
      · exact absurd (m_zero h hA).1 t2
      · omega
    obtain ⟨hr, -⟩ := rdn_of h hA
    have hlo := hr.m_lo
    rw [t1] at hlo
    have e18 : (10:Nat) ^ (19 - 1) = 1000000000000000000 := by decide
    rw [e18] at hlo
    have hb := hr.m_b
    exact both_inf (by omega) (by omega) h2 hb.2 (pf_291 _ _ hlo (by omega) h1 h2) (pf_291 _ _ (by omega) (by omega) h1 h2)

/-! The integer part. -/
theorem ds_pre {s : ByteArray} {d z : Nat} (hg : Gram s) (h : IntP s d z) : ∀ k, k ≤ d → (ds s k).length = k ∧ kf s k = 0 ∧ (rk s k).dot = false ∧ ∀ j (hj : j < s.size), j < k → (ds s k).getD j 0 = s[j]
  | 0, _ => ⟨rfl, rfl, rfl, fun j hj h => absurd h (by omega)⟩
  | k + 1, hk => by
    obtain ⟨i1, i2, i3, i4⟩ := ds_pre hg h k (by omega)
    have hlt : k < s.size := by have := h.dl; omega
    have h46 := h.bef k hlt (by omega)
    rw [ds_succ s k hlt, kf_succ s k hlt, if_neg h46, if_neg h46, i3]
    refine ⟨by simp [i1], by simpa using i2, ?_, fun j hj hjk => ?_⟩
    · rw [rk_succ s k hlt]
      unfold rstep
      rw [if_neg h46]
      split
      · exact i3
      · split
        · exact i3
        · split <;> exact i3
    · by_cases e : j = k
      · subst e
        simp [List.getD, i1]
      · have hjl : j < (ds s k).length := by omega
        rw [List.getD, List.getElem?_append_left hjl]
        have := i4 j hj (by omega)
        rw [List.getD] at this
        exact this
theorem ds_post {s : ByteArray} {d z : Nat} (hg : Gram s) (ho : OneDot s) (h : IntP s d z) : ∀ k, d ≤ k → k ≤ s.size → (ds s k).length = d + kf s k ∧ (d < k → (rk s k).dot = true) ∧ ∀ j (hj : j < s.size), j < d → (ds s k).getD j 0 = s[j] := by
  intro k hk
  obtain ⟨i, rfl⟩ : ∃ i, k = d + i := ⟨k - d, by omega⟩
  induction i with
  | zero =>
    intro _
    obtain ⟨i1, i2, i3, i4⟩ := ds_pre hg h d (Nat.le_refl _)
    exact ⟨by rw [Nat.add_zero, i1, i2]; omega, fun hh => absurd hh (by omega), i4⟩
  | succ i ih =>
    intro hsz
    obtain ⟨i1, i2, i4⟩ := ih (by omega) (by omega)
    have hlt : d + i < s.size := by omega
    rw [← Nat.add_assoc, ds_succ s (d + i) hlt, kf_succ s (d + i) hlt]
    by_cases h46 : s[d + i].toNat = 46
    · rw [if_pos h46, if_pos h46]
      refine ⟨i1, fun _ => ?_, i4⟩
      rw [rk_succ s (d + i) hlt, rstep, if_pos h46]
    · rw [if_neg h46, if_neg h46]
      have hi0 : 0 < i := by
        by_cases h0 : i = 0
        · subst h0; exact absurd (h.at' (by omega)) h46
        · omega
      have hdot := i2 (by omega)
      rw [hdot]
      refine ⟨by simp [i1]; omega, fun _ => ?_, fun j hj hjd => ?_⟩
      · rw [rk_succ s (d + i) hlt]
        unfold rstep
        rw [if_neg h46]
        split
        · exact hdot
        · split
          · exact hdot
          · split <;> exact hdot
      · have hjl : j < (ds s (d + i)).length := by omega
        rw [List.getD, List.getElem?_append_left hjl]
        have := i4 j hj hjd
        rw [List.getD] at this
        exact this
end Go.Proofs.Qxb6600776aDoor
