import Derived.Scope
set_option linter.unusedSimpArgs false
set_option linter.unusedVariables false
namespace Go.Proofs.Qxb6600776aDoor

/-- The first n digits (bytes '0'..'9') as a number. -/
def num (D : Nat → Nat) : Nat → Nat
  | 0 => 0
  | n + 1 => num D n * 10 + (D n - 48)
/-- All of the first n bytes are digits. -/
def Dig (D : Nat → Nat) (n : Nat) : Prop := ∀ k, k < n → 48 ≤ D k ∧ D k ≤ 57

theorem num_congr {D D' : Nat → Nat} : ∀ n, (∀ k, k < n → D k = D' k) → num D n = num D' n
  | 0, _ => rfl
  | n + 1, h => by simp only [num]; rw [num_congr n (fun k hk => h k (by omega)), h n (by omega)]
theorem num_lt {D : Nat → Nat} : ∀ n, Dig D n → num D n < 10 ^ n
  | 0, _ => by simp [num]
  | n + 1, h => by
    have := num_lt n (fun k hk => h k (by omega))
    have := h n (by omega)
    simp only [num, Nat.pow_succ]; omega
theorem num_ge {D : Nat → Nat} (h0 : 49 ≤ D 0) : ∀ n, 10 ^ n ≤ num D (n + 1)
  | 0 => by simp [num]; omega
  | n + 1 => by
    have := num_ge h0 n
    simp only [num, Nat.pow_succ] at this ⊢; omega
theorem num_pos {D : Nat → Nat} (h0 : 49 ≤ D 0) (n : Nat) (hn : 1 ≤ n) : 0 < num D n := by
  obtain ⟨m, rfl⟩ : ∃ m, n = m + 1 := ⟨n - 1, by omega⟩
  exact Nat.lt_of_lt_of_le (Nat.pow_pos (by omega)) (num_ge h0 m)
theorem num_zeros {D : Nat → Nat} (n : Nat) : ∀ m, (∀ k, n ≤ k → k < n + m → D k = 48) → num D (n + m) = num D n * 10 ^ m
  | 0, _ => by simp
  | m + 1, h => by
    have := num_zeros n m (fun k a b => h k a (by omega))
    have e := h (n + m) (by omega) (by omega)
    rw [← Nat.add_assoc]; simp only [num, this, e, Nat.pow_succ]; simp [Nat.mul_assoc]
/-- Padded by zeros behind nd. -/
def numP (D : Nat → Nat) (nd r : Nat) : Nat := if r ≤ nd then num D r else num D nd * 10 ^ (r - nd)
theorem numP_le {D : Nat → Nat} {nd r : Nat} (h : r ≤ nd) : numP D nd r = num D r := by simp [numP, h]
theorem numP_ge {D : Nat → Nat} {nd r : Nat} (h : nd ≤ r) : numP D nd r = num D nd * 10 ^ (r - nd) := by
  unfold numP; split
  · have : r = nd := by omega
    subst this; simp
  · rfl
theorem numP_add {D : Nat → Nat} {nd r : Nat} (h : nd ≤ r) (m : Nat) : numP D nd (r + m) = numP D nd r * 10 ^ m := by
  have e : r + m - nd = r - nd + m := by omega
  rw [numP_ge (by omega), numP_ge h, Nat.mul_assoc, ← Nat.pow_add, e]
theorem numP_succ {D : Nat → Nat} {nd r : Nat} (h : r < nd) : numP D nd (r + 1) = numP D nd r * 10 + (D r - 48) := by
  rw [numP_le (by omega), numP_le (by omega)]; rfl
theorem numP_succ' {D : Nat → Nat} {nd r : Nat} (h : nd ≤ r) : numP D nd (r + 1) = numP D nd r * 10 := by
  exact numP_add h 1
/-- The number on 800 places. -/
def pad (D : Nat → Nat) (nd : Nat) : Nat := num D nd * 10 ^ (800 - nd)
theorem pad_eq {D : Nat → Nat} {nd : Nat} (h : nd ≤ 800) : pad D nd = numP D nd 800 := (numP_ge h).symm
theorem pad_lt {D : Nat → Nat} {nd : Nat} (h : nd ≤ 800) (hd : Dig D nd) : pad D nd < 10 ^ 800 := by
  have h1 := num_lt nd hd
  have : (10:Nat) ^ 800 = 10 ^ nd * 10 ^ (800 - nd) := by rw [← Nat.pow_add]; congr 1; omega
  rw [this, pad]
  exact Nat.mul_lt_mul_of_pos_right h1 (Nat.pow_pos (by omega))
theorem pad_ge {D : Nat → Nat} {nd : Nat} (h : nd ≤ 800) (h1 : 1 ≤ nd) (h0 : 49 ≤ D 0) : 10 ^ 799 ≤ pad D nd := by
  obtain ⟨m, rfl⟩ : ∃ m, nd = m + 1 := ⟨nd - 1, by omega⟩
  have := num_ge h0 m
  have e : (10:Nat) ^ 799 = 10 ^ m * 10 ^ (800 - (m + 1)) := by rw [← Nat.pow_add]; congr 1; omega
  rw [e, pad]
  exact Nat.mul_le_mul_right _ this
/-- The lead digit against the padded number. -/
theorem pad_lead {D : Nat → Nat} {nd : Nat} (h : nd ≤ 800) (h1 : 1 ≤ nd) (hd : Dig D nd) : (D 0 - 48) * 10 ^ 799 ≤ pad D nd ∧ pad D nd < (D 0 - 48 + 1) * 10 ^ 799 := by
  have key : ∀ m, m + 1 ≤ nd → (D 0 - 48) * 10 ^ m ≤ num D (m + 1) ∧ num D (m + 1) < (D 0 - 48 + 1) * 10 ^ m := by
    intro m
    induction m with
    | zero => intro _; simp [num]
    | succ m ih =>
      intro hm
      obtain ⟨a, b⟩ := ih (by omega)
      have := hd (m + 1) (by omega)
      have e : num D (m + 1 + 1) = num D (m + 1) * 10 + (D (m + 1) - 48) := rfl
      rw [e, Nat.pow_succ, ← Nat.mul_assoc, ← Nat.mul_assoc]
      omega
  obtain ⟨m, rfl⟩ : ∃ m, nd = m + 1 := ⟨nd - 1, by omega⟩
  obtain ⟨a, b⟩ := key m (by omega)
  have e : (10:Nat) ^ 799 = 10 ^ m * 10 ^ (800 - (m + 1)) := by rw [← Nat.pow_add]; congr 1; omega
  rw [e, pad, ← Nat.mul_assoc, ← Nat.mul_assoc]
  exact ⟨Nat.mul_le_mul_right _ a, Nat.mul_lt_mul_of_pos_right b (Nat.pow_pos (by omega))⟩
/-- Digits taken out of a number T of M places: index i holds the digit of 10^(M-1-i). -/
theorem num_of_digits {D : Nat → Nat} {T M : Nat} (hT : T < 10 ^ M) : ∀ m, m ≤ M → (∀ i, i < m → D i = 48 + T / 10 ^ (M - 1 - i) % 10) → num D m = T / 10 ^ (M - m)
  | 0, _, _ => by simp [num, Nat.div_eq_of_lt hT]
  | m + 1, hm, h => by
    have ih := num_of_digits hT m (by omega) (fun i hi => h i (by omega))
    have e := h m (by omega)
    simp only [num, ih, e]
    have e1 : M - m = (M - (m + 1)) + 1 := by omega
    have e2 : M - 1 - m = M - (m + 1) := by omega
    rw [e1, e2, Nat.pow_succ, ← Nat.div_div_eq_div_mul]
    generalize T / 10 ^ (M - (m + 1)) = x
    omega
end Go.Proofs.Qxb6600776aDoor
