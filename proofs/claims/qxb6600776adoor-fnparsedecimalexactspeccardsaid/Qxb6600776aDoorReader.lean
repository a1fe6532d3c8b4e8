import Derived.Test.Qxb6600776aDoorDs
set_option linter.unusedSimpArgs false
set_option linter.unusedVariables false
namespace Go.Proofs.Qxb6600776aDoor

/-- The digits of a list as a number. -/
def nL (l : List UInt8) : Nat := l.foldl (fun a c => a * 10 + (c.toNat - 48)) 0
theorem nL_snoc (l : List UInt8) (c : UInt8) : nL (l ++ [c]) = nL l * 10 + (c.toNat - 48) := by simp [nL, List.foldl_append]
theorem nL_take (l : List UInt8) : ∀ n, n ≤ l.length → num (fun j => (l.getD j 0).toNat) n = nL (l.take n)
  | 0, _ => by simp [num, nL]
  | n + 1, h => by
    have hn : n < l.length := by omega
    rw [take_snoc l n hn, nL_snoc, ← nL_take l n (by omega)]
    show num _ n * 10 + (((l.getD n 0).toNat) - 48) = _
    rw [List.getD, List.getElem?_eq_getElem hn]
    rfl
theorem nL_num (l : List UInt8) : num (fun j => (l.getD j 0).toNat) l.length = nL l := by
  rw [nL_take l l.length (Nat.le_refl _), List.take_length]
/-- What the reader's state says of the digits read so far. -/
structure RL (R : RS) (A K : Nat) : Prop where
  nm : R.nm = min R.nd 19
  nodot : R.dot = false → K = 0
  z : R.nd = 0 → A = 0 ∧ R.m = 0 ∧ R.tr = false ∧ (R.dot = true → R.dp = -(K : Int))
  p : 0 < R.nd → 10 ^ (R.nd - 1) ≤ A ∧ A < 10 ^ R.nd ∧ R.m = A / 10 ^ (R.nd - R.nm) ∧ R.tr = decide (A % 10 ^ (R.nd - R.nm) ≠ 0) ∧ (R.dot = true → R.dp = (R.nd : Int) - K)
theorem RL.dot {R : RS} {A K : Nat} {c : UInt8} (h : RL R A K) (hc : c.toNat = 46) (hd : R.dot = false) : RL (rstep R c) A K := by
  have e : rstep R c = ⟨R.m, R.nd, R.nm, R.nd, true, R.dig, R.tr⟩ := by unfold rstep; rw [if_pos hc]
  have hK := h.nodot hd
  rw [e]
  refine ⟨h.nm, fun h' => absurd h' (by simp), fun h0 => ?_, fun h0 => ?_⟩
  · obtain ⟨a, b, c, -⟩ := h.z h0
    exact ⟨a, b, c, fun _ => by simp only at h0 ⊢; omega⟩
  · obtain ⟨a, b, c, d, -⟩ := h.p h0
    exact ⟨a, b, c, d, fun _ => by simp only; omega⟩
theorem RL.digit {R : RS} {A K : Nat} {c : UInt8} (h : RL R A K) (hc : 48 ≤ c.toNat ∧ c.toNat ≤ 57) : RL (rstep R c) (A * 10 + (c.toNat - 48)) (if R.dot then K + 1 else K) := by
  obtain ⟨v, hv⟩ : ∃ v, c.toNat - 48 = v := ⟨_, rfl⟩
  rw [hv]
  have hv9 : v ≤ 9 := by omega
  have hc46 : ¬ c.toNat = 46 := by omega
  have hnm := h.nm
  by_cases hz : c.toNat = 48 ∧ R.nd = 0
  · have e : rstep R c = ⟨R.m, R.nd, R.nm, R.dp - 1, R.dot, true, R.tr⟩ := by unfold rstep; rw [if_neg hc46, if_pos hz]
    obtain ⟨a, b, t, dd⟩ := h.z hz.2
    rw [e]
    refine ⟨hnm, fun h' => ?_, fun h0 => ⟨by omega, b, t, fun h' => ?_⟩, fun h0 => absurd h0 (by simp only; omega)⟩
    · simp only at h'; rw [h']; exact h.nodot h'
    · simp only at h' ⊢; rw [h', dd h']; simp only [if_true]; omega
  · have hdp : (R.nd = 0 → R.dot = true → R.dp = -(K : Int)) := fun h0 => (h.z h0).2.2.2
    by_cases h9 : R.nm < 19
    · have e : rstep R c = ⟨R.m * 10 + v, R.nd + 1, R.nm + 1, R.dp, R.dot, true, R.tr⟩ := by unfold rstep; rw [if_neg hc46, if_neg hz, if_pos h9, hv]
      rw [e]
      refine ⟨by simp only; omega, fun h' => ?_, fun h0 => absurd h0 (by simp), fun _ => ?_⟩
      · simp only at h'; rw [h']; exact h.nodot h'
      · simp only
        have en : R.nd + 1 - (R.nm + 1) = 0 := by omega
        rw [en, Nat.pow_zero, Nat.div_one, Nat.mod_one, Nat.add_sub_cancel]
        by_cases h0 : R.nd = 0
        · obtain ⟨a, b, t, dd⟩ := h.z h0
          refine ⟨by rw [h0, a]; simp; omega, by rw [h0, a]; simp; omega, by rw [a, b], by rw [t]; rfl, fun h' => ?_⟩
          rw [dd h', h', h0]; simp only [if_true]; omega
        · obtain ⟨a, b, cc, t, dd⟩ := h.p (by omega)
          have en2 : R.nd - R.nm = 0 := by omega
          rw [en2, Nat.pow_zero, Nat.div_one] at cc
          rw [en2, Nat.pow_zero, Nat.mod_one] at t
          have e1 : (10:Nat) ^ R.nd = 10 ^ (R.nd - 1) * 10 := by rw [← Nat.pow_succ]; congr 1; omega
          refine ⟨by omega, by rw [Nat.pow_succ]; omega, by rw [cc], by rw [t], fun h' => ?_⟩
          rw [dd h', h']; simp only [if_true]; omega
    · have hnd : 19 ≤ R.nd := by omega
      have e : ∃ tr', rstep R c = ⟨R.m, R.nd + 1, R.nm, R.dp, R.dot, true, tr'⟩ ∧ tr' = if v = 0 then R.tr else true := by
        unfold rstep
        rw [if_neg hc46, if_neg hz, if_neg h9]
        by_cases h48 : c.toNat = 48
        · rw [if_pos h48]; exact ⟨_, rfl, by rw [if_pos (by omega)]⟩
        · rw [if_neg h48]; exact ⟨_, rfl, by rw [if_neg (by omega)]⟩
      obtain ⟨tr', e, htr⟩ := e
      rw [e]
      obtain ⟨a, b, cc, t, dd⟩ := h.p (by omega)
      refine ⟨by simp only; omega, fun h' => ?_, fun h0 => absurd h0 (by simp), fun _ => ?_⟩
      · simp only at h'; rw [h']; exact h.nodot h'
      · simp only
        obtain ⟨tt, htt⟩ : ∃ tt, R.nd - R.nm = tt := ⟨_, rfl⟩
        rw [htt] at cc t
        have en : R.nd + 1 - R.nm = tt + 1 := by omega
        rw [en, Nat.add_sub_cancel, Nat.pow_succ 10 tt, Nat.mul_comm (10 ^ tt) 10]
        have e1 : (10:Nat) ^ R.nd = 10 ^ (R.nd - 1) * 10 := by rw [← Nat.pow_succ]; congr 1; omega
        have d1 : (A * 10 + v) / (10 * 10 ^ tt) = A / 10 ^ tt := by
          rw [← Nat.div_div_eq_div_mul]; congr 1; omega
        have d2 : (A * 10 + v) % (10 * 10 ^ tt) = v + 10 * (A % 10 ^ tt) := by
          rw [Nat.mod_mul]
          have u1 : (A * 10 + v) % 10 = v := by omega
          have u2 : (A * 10 + v) / 10 = A := by omega
          rw [u1, u2]
        refine ⟨by omega, by rw [Nat.pow_succ]; omega, by rw [d1]; exact cc, ?_, fun h' => ?_⟩
        · rw [htr, d2]
          by_cases hv0 : v = 0
          · rw [if_pos hv0, t, hv0]
            congr 1
            exact propext ⟨fun hh => by omega, fun hh => by omega⟩
          · rw [if_neg hv0]; symm; exact decide_eq_true (by omega)
        · rw [dd h', h']; simp only [if_true]; omega
theorem rl_take {s : ByteArray} (hg : Gram s) (ho : OneDot s) : ∀ k, k ≤ s.size → RL (rk s k) (nL (ds s k)) (kf s k)
  | 0, _ => by
    have e : rk s 0 = rs0 := rfl
    rw [e]
    exact ⟨rfl, fun _ => rfl, fun _ => ⟨rfl, rfl, rfl, fun h => absurd h (by simp [rs0])⟩, fun h => absurd h (by simp [rs0])⟩
  | k + 1, hk => by
    have ih := rl_take hg ho k (by omega)
    have hlt : k < s.size := by omega
    rw [rk_succ s k hlt, ds_succ s k hlt, kf_succ s k hlt]
    have hc := hg k hlt
    by_cases h46 : s[k].toNat = 46
    · rw [if_pos h46, if_pos h46]
      exact ih.dot h46 (rk_dot ho k hlt h46)
    · rw [if_neg h46, if_neg h46, nL_snoc]
      exact ih.digit (by omega)
end Go.Proofs.Qxb6600776aDoor
