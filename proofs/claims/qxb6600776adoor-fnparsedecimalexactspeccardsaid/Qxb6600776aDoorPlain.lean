/-
  WHAT readFloat READS, in plain numbers: no Go in sight.
-/
namespace Go.Proofs.Qxb6600776aDoor

/-- The reader's state: mantissa, digits met, digits taken, decimal point; a dot met, a digit met, a nonzero digit dropped. -/
structure RS where
  m : Nat
  nd : Nat
  nm : Nat
  dp : Int
  dot : Bool
  dig : Bool
  tr : Bool

def rstep (r : RS) (c : UInt8) : RS :=
  if c.toNat = 46 then ⟨r.m, r.nd, r.nm, r.nd, true, r.dig, r.tr⟩
  else if c.toNat = 48 ∧ r.nd = 0 then ⟨r.m, r.nd, r.nm, r.dp - 1, r.dot, true, r.tr⟩
  else if r.nm < 19 then ⟨r.m * 10 + (c.toNat - 48), r.nd + 1, r.nm + 1, r.dp, r.dot, true, r.tr⟩
  else if c.toNat = 48 then ⟨r.m, r.nd + 1, r.nm, r.dp, r.dot, true, r.tr⟩
  else ⟨r.m, r.nd + 1, r.nm, r.dp, r.dot, true, true⟩
def rs0 : RS := ⟨0, 0, 0, 0, false, false, false⟩
def rs (l : List UInt8) : RS := l.foldl rstep rs0
theorem rs_snoc (l : List UInt8) (c : UInt8) : rs (l ++ [c]) = rstep (rs l) c := by simp [rs, List.foldl_append]

/-- A byte of the grammar. -/
def okc (c : UInt8) : Prop := c.toNat = 46 ∨ (48 ≤ c.toNat ∧ c.toNat ≤ 57)
structure RInv (r : RS) (n : Nat) : Prop where
  nm : r.nm ≤ 19
  nd : r.nd ≤ n
  le : r.nm ≤ r.nd
  lo : -(n : Int) ≤ r.dp
  hi : r.dp ≤ n
  m : r.m < 10 ^ r.nm
theorem rinv_step {r : RS} {n : Nat} {c : UInt8} (h : RInv r n) (hc : okc c) : RInv (rstep r c) (n + 1) := by
  obtain ⟨h1, h2, h3, h4, h5, h6⟩ := h
  unfold okc at hc
  unfold rstep
  split
  · exact ⟨h1, by simp only; omega, h3, by simp only; omega, by simp only; omega, h6⟩
  · split
    · exact ⟨h1, by simp only; omega, h3, by simp only; omega, by simp only; omega, h6⟩
    · split
      · refine ⟨by simp only; omega, by simp only; omega, by simp only; omega, by simp only; omega, by simp only; omega, ?_⟩
        show r.m * 10 + (c.toNat - 48) < 10 ^ (r.nm + 1)
        rw [Nat.pow_succ]
        omega
      · split
        · exact ⟨h1, by simp only; omega, by simp only; omega, by simp only; omega, by simp only; omega, h6⟩
        · exact ⟨h1, by simp only; omega, by simp only; omega, by simp only; omega, by simp only; omega, h6⟩
theorem take_snoc (l : List UInt8) (k : Nat) (h : k < l.length) : l.take (k + 1) = l.take k ++ [l[k]] := (List.take_append_getElem h).symm
theorem rs_take (l : List UInt8) (k : Nat) (h : k < l.length) : rs (l.take (k + 1)) = rstep (rs (l.take k)) l[k] := by rw [take_snoc l k h, rs_snoc]
theorem rinv_take (l : List UInt8) (h : ∀ k (hk : k < l.length), okc l[k]) : ∀ k, k ≤ l.length → RInv (rs (l.take k)) k
  | 0, _ => by rw [List.take_zero]; exact ⟨by decide, by decide, by decide, by decide, by decide, by decide⟩
  | k + 1, hk => by
    rw [rs_take l k (by omega)]
    exact rinv_step (rinv_take l h k (by omega)) (h k (by omega))
/-- The dot's flag tells of a dot behind us. -/
theorem dot_take (l : List UInt8) : ∀ k, k ≤ l.length → (rs (l.take k)).dot = true → ∃ j, ∃ h : j < l.length, j < k ∧ l[j].toNat = 46
  | 0, _, h => by cases h
  | k + 1, hk, h => by
    rw [rs_take l k (by omega)] at h
    by_cases hc : l[k].toNat = 46
    · exact ⟨k, by omega, by omega, hc⟩
    · have h2 : (rs (l.take k)).dot = true := by
        unfold rstep at h
        rw [if_neg hc] at h
        split at h
        · exact h
        · split at h
          · exact h
          · split at h <;> exact h
      obtain ⟨j, hj, hlt, e⟩ := dot_take l k (by omega) h2
      exact ⟨j, hj, by omega, e⟩
theorem m_lt {r : RS} {n : Nat} (h : RInv r n) : r.m < 10000000000000000000 := by
  have h1 : 10 ^ r.nm ≤ 10 ^ 19 := Nat.pow_le_pow_right (by decide) h.nm
  have := h.m
  omega
end Go.Proofs.Qxb6600776aDoor
