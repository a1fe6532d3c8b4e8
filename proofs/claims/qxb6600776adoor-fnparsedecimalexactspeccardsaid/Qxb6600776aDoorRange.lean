import Derived.Test.Qxb6600776aDoorParse
set_option linter.unusedSimpArgs false
set_option linter.unusedVariables false
set_option exponentiation.threshold 10000
namespace Go.Proofs.Qxb6600776aDoor

theorem or_bit (a b : Nat) (hb : b < 2) : a ≤ a ||| b ∧ a ||| b ≤ a + 1 := by
  rw [or_low1 a b hb]; split <;> omega
theorem usc_hi (x H L s : Nat) : usc x H L s ≤ x * H / 18446744073709551616 / 2 ^ s + 1 := by
  unfold usc uscF
  generalize x * H / 18446744073709551616 = hi
  split
  · split
    · have h1 := (or_bit ((hi - 1) / 2 ^ s) (if 1 < x * H % 18446744073709551616 + 18446744073709551616 - x * L / 18446744073709551616 then 1 else 0) (by split <;> omega)).2
      have h2 : (hi - 1) / 2 ^ s ≤ hi / 2 ^ s := Nat.div_le_div_right (by omega)
      omega
    · exact (or_bit _ _ (by split <;> omega)).2
  · exact (or_bit _ _ (by omega)).2
theorem usc_lo (x H L s : Nat) : (x * H / 18446744073709551616 - 1) / 2 ^ s ≤ usc x H L s := by
  unfold usc uscF
  generalize x * H / 18446744073709551616 = hi
  have h2 : (hi - 1) / 2 ^ s ≤ hi / 2 ^ s := Nat.div_le_div_right (by omega)
  split
  · split
    · exact (or_bit _ _ (by split <;> omega)).1
    · exact Nat.le_trans h2 (or_bit _ _ (by split <;> omega)).1
  · exact Nat.le_trans h2 (or_bit _ _ (by omega)).1
theorem rnd_b (u : Nat) : u / 4 ≤ rnd u ∧ rnd u ≤ (u + 2) / 4 := by unfold rnd; omega
theorem half_b (u : Nat) : u / 2 ≤ (u / 2 ||| u % 2) ∧ (u / 2 ||| u % 2) ≤ u / 2 + 1 := or_bit _ _ (by omega)
theorem pack_shape (m : Nat) (e : Int) (hm : m < 9007199254740992) : ((packV m e).2 = true → (packV m e).1 = 9218868437227405312) ∧ ((packV m e).2 = false → (packV m e).1 < 9218868437227405312) ∧ (e < 972 → (packV m e).2 = false) ∧ (972 ≤ e → 4503599627370496 ≤ m → (packV m e).2 = true) := by
  unfold packV
  by_cases h1 : m < 4503599627370496
  · rw [if_pos h1]
    refine ⟨fun h => absurd h (by simp), fun _ => by show m < _; omega, fun _ => rfl, fun _ h => absurd h (by omega)⟩
  · rw [if_neg h1]
    by_cases h2 : 972 ≤ e
    · rw [if_pos h2]
      exact ⟨fun _ => rfl, fun h => absurd h (by simp), fun h => absurd h (by omega), fun _ _ => rfl⟩
    · rw [if_neg h2]
      refine ⟨fun h => absurd h (by simp), fun _ => ?_, fun _ => rfl, fun h => absurd h h2⟩
      show (e + 1075).toNat * 4503599627370496 + (m - 4503599627370496) < _
      omega
theorem rnd_odd (u : Nat) (h : 18014398509481983 ≤ u) : 4503599627370496 ≤ rnd u := by unfold rnd; omega
/-- The end: what u and e give. -/
theorem end_shape (u : Nat) (e : Int) (hu : u ≤ 72057594037927936 - 4398046511104 + 1) : ((endV u e).2 = true → (endV u e).1 = 9218868437227405312) ∧ ((endV u e).2 = false → (endV u e).1 < 9218868437227405312) ∧
    (1 - e < 972 → (endV u e).2 = false) ∧ (-e < 972 → u < 36028797018963966 → (endV u e).2 = false) ∧
    (972 ≤ -e → 18014398509481983 ≤ u → (endV u e).2 = true) ∧ (972 ≤ 1 - e → 36028797018963966 ≤ u → (endV u e).2 = true) := by
  unfold endV
  have hb := half_b u
  by_cases h : 36028797018963966 ≤ u
  · rw [if_pos h]
    have hm : rnd (u / 2 ||| u % 2) < 9007199254740992 := by have := (rnd_b (u / 2 ||| u % 2)).2; omega
    have hg : 4503599627370496 ≤ rnd (u / 2 ||| u % 2) := rnd_odd _ (by omega)
    obtain ⟨p1, p2, p3, p4⟩ := pack_shape (rnd (u / 2 ||| u % 2)) (1 - e) hm
    exact ⟨p1, p2, p3, fun _ h' => absurd h' (by omega), fun h' _ => p4 (by omega) hg, fun h' _ => p4 h' hg⟩
  · rw [if_neg h]
    have hm : rnd u < 9007199254740992 := by have := (rnd_b u).2; omega
    obtain ⟨p1, p2, p3, p4⟩ := pack_shape (rnd u) (-e) hm
    exact ⟨p1, p2, fun h' => p3 (by omega), fun h' _ => p3 h', fun h' h'' => p4 h' (rnd_odd _ h''), fun _ h' => absurd h' h⟩
/-- pf64, unfolded. -/
theorem pf64_eq (d : Nat) (p : Int) (b : Nat) (hb : Lib.bitLen d = b) (e : Int) (he : e = min 1074 (53 - (b : Int) - lg p)) (s : Nat) (hs : (s : Int) = -(e - (64 - b) + lg p + 3)) (hs64 : s < 64) :
    pf64 d p = endV (usc (d * 2 ^ (64 - b)) (pHi (p + 348).toNat) (pLo (p + 348).toNat) s) e := by
  unfold pf64
  simp only [hb]
  rw [← he]
  have h1 : ¬ (64 : Int) ≤ -(e - (64 - b) + lg p + 3) := by omega
  rw [if_neg h1]
  have h2 : (-(e - (64 - (b : Int)) + lg p + 3)).toNat = s := by omega
  rw [h2]
/-- The shape of every answer, and when it is finite. -/
theorem pf64_shape (d : Nat) (p : Int) (hd0 : 0 < d) (hd : d < 18446744073709551616) (hp0 : -345 ≤ p) (hp1 : p ≤ 310) :
    ((pf64 d p).2 = true → (pf64 d p).1 = 9218868437227405312) ∧ ((pf64 d p).2 = false → (pf64 d p).1 < 9218868437227405312) ∧ (p ≤ 288 → (pf64 d p).2 = false) := by
  obtain ⟨b1, b2, b3, b4⟩ := bl_bounds d hd0 hd
  obtain ⟨b, hb⟩ : ∃ b, Lib.bitLen d = b := ⟨_, rfl⟩
  rw [hb] at b1 b2 b3 b4
  obtain ⟨e, he⟩ : ∃ e, e = min 1074 (53 - (b : Int) - lg p) := ⟨_, rfl⟩
  have hlg : lg p = p * 108853 / 32768 := rfl
  by_cases h64 : 64 ≤ -(e - (64 - b) + lg p + 3)
  · have : pf64 d p = (0, false) := by
      unfold pf64
      simp only [hb]
      rw [← he, if_pos h64]
    rw [this]
    exact ⟨fun h => absurd h (by simp), fun _ => by simp, fun _ => rfl⟩
  · obtain ⟨s, hs⟩ : ∃ s : Nat, (s : Int) = -(e - (64 - b) + lg p + 3) := ⟨(-(e - (64 - b) + lg p + 3)).toNat, by omega⟩
    rw [pf64_eq d p b hb e he s hs (by omega)]
    have hx := just_bounds d b b1 b2 b3 b4
    have hH := tab_top ⟨(p + 348).toNat, by omega⟩
    have hu := usc_le (d * 2 ^ (64 - b)) (pHi (p + 348).toNat) (pLo (p + 348).toNat) s hx.2 hH (by omega)
    obtain ⟨p1, p2, p3, -⟩ := end_shape _ e hu
    exact ⟨p1, p2, fun h => p3 (by omega)⟩
end Go.Proofs.Qxb6600776aDoor
