import Derived.Test.Qxb6600776aDoorSum3
set_option linter.unusedSimpArgs false
set_option linter.unusedVariables false
set_option exponentiation.threshold 10000
namespace Go.Proofs.Qxb6600776aDoor
open Go.RowKit

theorem ord_self (b : Nat) (h : b < 9218868437227405312) : FloatKind.f64.format.order b b = some .eq := by
  show Ieee.double.order b b = _
  rw [order_fin b b h h]; simp
/-- The exact part's facts. -/
theorem ex_of {s : ByteArray} (h : Syn s) {b : Nat} (hat : AtOk (rk s s.size).m (rexp (rk s s.size)) (rk s s.size).tr b false) (hb : b < 9218868437227405312) :
    Ex s b (ds s s.size).length (nK s) (dD s) := by
  have hnum := nA_num s
  have hN1 : 1 ≤ (ds s s.size).length := by
    -- some digit was met
    by_cases h0 : (ds s s.size).length = 0
    · exfalso
      have key : ∀ k, k ≤ s.size → (rk s k).dig = true → 0 < (ds s k).length := by
        intro k
        induction k with
        | zero => intro _ hh; cases hh
        | succ k ih =>
          intro hk hh
          have hlt : k < s.size := by omega
          rw [rk_dig_step hlt (h.gr k hlt)] at hh
          rw [ds_succ s k hlt]
          by_cases h46 : s[k].toNat = 46
          · rw [if_pos h46] at hh ⊢; exact ih (by omega) hh
          · rw [if_neg h46]; simp
      have := key s.size (Nat.le_refl _) h.dg
      omega
    · omega
  refine ⟨h.gr, rfl, rfl, fun _ => rfl, dD_dig s h.gr, hN1, kf_le s s.size, fun h0 => ?_, fun M k hM0 hM hk1 hk hkK hA => ?_, fun M e hM0 hM he hA => ?_⟩
  · rw [hnum] at h0
    have hm := (m_zero h h0).1
    rcases hat with ⟨-, hb, -⟩ | ⟨hh, -⟩ | ⟨hh, -⟩ | ⟨hh, -⟩ | ⟨hh, -⟩
    · exact hb
    all_goals exact absurd hm hh
  · rw [hnum] at hA
    have hA0 : 0 < nA s := by rw [hA]; exact Nat.mul_pos hM0 (Nat.pow_pos (by omega))
    obtain ⟨hr, -⟩ := rdn_of h hA0
    obtain ⟨-, hn⟩ := ex_div hr hat M k hM0 hM hk1 hk hkK hA
    obtain ⟨r, hf, hn2⟩ := near_div M k hM0 (by omega) hk
    have e := near_unique (Nat.pow_pos (by omega)) (Nat.pow_pos (by omega)) hn hn2 rfl
    subst e
    exact ⟨_, hf, ord_self _ hb⟩
  · rw [hnum] at hA
    have hA0 : 0 < nA s := by rw [hA]; exact Nat.mul_pos hM0 (Nat.pow_pos (by omega))
    obtain ⟨hr, -⟩ := rdn_of h hA0
    obtain ⟨-, hn⟩ := ex_mul hr hat M e hM0 hM he hA
    obtain ⟨r, hf, hn2⟩ := near_mul M e hM0 (by omega) he
    have e := near_unique (by omega) (by omega) hn hn2 rfl
    subst e
    exact ⟨_, hf, ord_self _ hb⟩
/-- The integer part of a text exists. -/
theorem intp_ex (s : ByteArray) (hs : s.size ≤ 1048576) : ∃ d z, IntP s d z := by
  have hd : ∃ d, d ≤ s.size ∧ (∀ j (h : j < s.size), j < d → s[j].toNat ≠ 46) ∧ (∀ h : d < s.size, s[d].toNat = 46) := by
    have key : ∀ n, n ≤ s.size → (∀ j (h : j < s.size), j < s.size - n → s[j].toNat ≠ 46) → ∃ d, d ≤ s.size ∧ (∀ j (h : j < s.size), j < d → s[j].toNat ≠ 46) ∧ (∀ h : d < s.size, s[d].toNat = 46) := by
      intro n
      induction n with
      | zero => intro _ hh; exact ⟨s.size, Nat.le_refl _, fun j h hj => hh j h (by omega), fun h => absurd h (by omega)⟩
      | succ n ih =>
        intro hn hh
        have hlt : s.size - (n + 1) < s.size := by omega
        by_cases h46 : s[s.size - (n + 1)].toNat = 46
        · exact ⟨s.size - (n + 1), by omega, hh, fun _ => h46⟩
        · refine ih (by omega) (fun j h hj => ?_)
          by_cases e : j = s.size - (n + 1)
          · subst e; exact h46
          · exact hh j h (by omega)
    exact key s.size (Nat.le_refl _) (fun j h hj => absurd hj (by omega))
  obtain ⟨d, hd1, hd2, hd3⟩ := hd
  have hz : ∃ z, z ≤ d ∧ (∀ j (h : j < s.size), j < z → s[j].toNat = 48) ∧ (∀ h : z < s.size, z < d → s[z].toNat ≠ 48) := by
    have key : ∀ n, n ≤ d → (∀ j (h : j < s.size), j < d - n → s[j].toNat = 48) → ∃ z, z ≤ d ∧ (∀ j (h : j < s.size), j < z → s[j].toNat = 48) ∧ (∀ h : z < s.size, z < d → s[z].toNat ≠ 48) := by
      intro n
      induction n with
      | zero => intro _ hh; exact ⟨d, Nat.le_refl _, fun j h hj => hh j h (by omega), fun _ h => absurd h (by omega)⟩
      | succ n ih =>
        intro hn hh
        have hlt : d - (n + 1) < s.size := by omega
        by_cases h48 : s[d - (n + 1)].toNat = 48
        · refine ih (by omega) (fun j h hj => ?_)
          by_cases e : j = d - (n + 1)
          · subst e; exact h48
          · exact hh j h (by omega)
        · exact ⟨d - (n + 1), by omega, hh, fun _ _ => h48⟩
    exact key d (Nat.le_refl _) (fun j h hj => absurd hj (by omega))
  obtain ⟨z, hz1, hz2, hz3⟩ := hz
  exact ⟨d, z, hs, hd1, hd2, hd3, hz1, hz2, hz3⟩
/-- Either of the grammar's bytes, or a first byte that is none. -/
theorem gram_or (s : ByteArray) : Gram s ∨ ∃ (b0 : Nat) (hb0 : b0 < s.size), GramTo s b0 ∧ ¬ (s[b0].toNat = 46 ∨ (48 ≤ s[b0].toNat ∧ s[b0].toNat ≤ 57)) := by
  have key : ∀ n, n ≤ s.size → GramTo s (s.size - n) → Gram s ∨ ∃ (b0 : Nat) (hb0 : b0 < s.size), GramTo s b0 ∧ ¬ (s[b0].toNat = 46 ∨ (48 ≤ s[b0].toNat ∧ s[b0].toNat ≤ 57)) := by
    intro n
    induction n with
    | zero => intro _ hh; exact Or.inl (fun j hj => hh j hj (by omega))
    | succ n ih =>
      intro hn hh
      have hlt : s.size - (n + 1) < s.size := by omega
      by_cases hok : s[s.size - (n + 1)].toNat = 46 ∨ (48 ≤ s[s.size - (n + 1)].toNat ∧ s[s.size - (n + 1)].toNat ≤ 57)
      · refine ih (by omega) (fun j h hj => ?_)
        by_cases e : j = s.size - (n + 1)
        · subst e; exact hok
        · exact hh j h (by omega)
      · exact Or.inr ⟨s.size - (n + 1), hlt, hh, hok⟩
  exact key s.size (Nat.le_refl _) (fun j h hj => absurd hj (by omega))
/-- At most one dot, by counting. -/
theorem onedot_of (s : ByteArray) (h : s.data.toList.count 46 ≤ 1) : OneDot s := by
  have mono : ∀ a b, a ≤ b → (s.data.toList.take a).count 46 ≤ (s.data.toList.take b).count 46 := fun a b hab =>
    List.Sublist.count_le 46 (List.take_sublist_take_left hab)
  have tot : ∀ a, (s.data.toList.take a).count 46 ≤ 1 := fun a => Nat.le_trans (List.Sublist.count_le 46 (List.take_sublist _ _)) h
  have key : ∀ j k (hj : j < s.size) (hk : k < s.size), s[j].toNat = 46 → s[k].toNat = 46 → ¬ j < k := by
    intro j k hj hk h1 h2 hlt
    have c1 := count_take s j hj
    have c2 := count_take s k hk
    rw [if_pos h1] at c1
    rw [if_pos h2] at c2
    have := mono (j + 1) k (by omega)
    have := tot (k + 1)
    omega
  intro j k hj hk h1 h2
  have := key j k hj hk h1 h2
  have := key k j hk hj h2 h1
  omega
/-- Syntax not met: refused. -/
theorem c7_no (s : ByteArray) (w : World) (h : Calls Tryd.prog 15 #[.string s] w fun e w' => e = .returned (.tuple #[.float .f64 0, .bool false]) ∧ Below w.heap.size w w') :
    Calls Tryd.prog 7 #[.string s] w fun e w' => e = .returned (.tuple #[.float .f64 0, .bool false]) ∧ Below w.heap.size w w' := by
  have := c7_of s w (fun b ok => b = 0 ∧ ok = false) (h.mono (fun e w' ⟨h1, h2⟩ => ⟨⟨0, false, h1, rfl, rfl⟩, h2⟩))
  refine this.mono ?_
  rintro e w' ⟨⟨b, ok, rfl, rfl, rfl⟩, h2⟩
  exact ⟨rfl, h2⟩
end Go.Proofs.Qxb6600776aDoor
