import Derived.Test.Qxb6600776aDoorDigits
set_option linter.unusedSimpArgs false
set_option linter.unusedVariables false
namespace Go.Proofs.Qxb6600776aDoor

/-! The right shift, plain. -/
theorem rs_step (A K c : Nat) (hK : 0 < K) (hc : c < 10) :
    (A * 10 + c) / (10 * K) = A / (10 * K) * 10 + A % (10 * K) / K ∧ (A * 10 + c) % (10 * K) = A % (10 * K) % K * 10 + c := by
  have h1 := Nat.div_add_mod A (10 * K)
  have h2 := Nat.div_add_mod (A % (10 * K)) K
  have h3 := Nat.mod_lt (A % (10 * K)) hK
  generalize A / (10 * K) = q at *
  generalize A % (10 * K) = m at *
  generalize m / K = d at *
  generalize m % K = e at *
  refine (Nat.div_mod_unique (by omega)).mpr ⟨?_, by omega⟩
  subst h1; subst h2
  simp only [Nat.mul_add, Nat.add_mul, Nat.mul_assoc, Nat.mul_comm, Nat.mul_left_comm]
  omega
/-- The end of the right shift. -/
theorem rs_end {D D' : Nat → Nat} {nd r0 w K : Nat} (hK : 0 < K) (hnd : nd ≤ 800) (hr : 1 ≤ r0) (hw : w ≤ 800)
    (he : num D' w = numP D nd (r0 + w) / (10 * K)) (hz : w < 800 → nd ≤ r0 + w ∧ numP D nd (r0 + w) % (10 * K) = 0) :
    pad D' w = pad D nd * 10 ^ (r0 - 1) / K := by
  have e1 : pad D nd * 10 ^ (r0 - 1) / K = numP D nd (r0 + 800) / (10 * K) := by
    obtain ⟨j, rfl⟩ : ∃ j, r0 = j + 1 := ⟨r0 - 1, by omega⟩
    rw [pad_eq hnd, Nat.add_comm (j + 1) 800, numP_add hnd, Nat.add_sub_cancel, Nat.pow_succ, Nat.mul_comm (10 ^ j) 10, Nat.mul_left_comm, Nat.mul_div_mul_left _ _ (by omega)]
  rw [e1, pad, he]
  by_cases h : w = 800
  · subst h; simp
  · obtain ⟨a, b⟩ := hz (by omega)
    have e2 : r0 + 800 = (r0 + w) + (800 - w) := by omega
    rw [e2, numP_add a]
    obtain ⟨q, hq⟩ := Nat.dvd_of_mod_eq_zero b
    rw [hq, Nat.mul_div_cancel_left _ (by omega), Nat.mul_assoc, Nat.mul_div_cancel_left _ (by omega)]

/-! The left shift, plain. -/
theorem ls_step {N K c n T E : Nat} (h : (N * 10 + c) * K + n = T / E) :
    N * K + (c * K + n) / 10 = T / (E * 10) ∧ (c * K + n) % 10 = T / E % 10 := by
  rw [← Nat.div_div_eq_div_mul, ← h, Nat.add_mul, Nat.mul_assoc, Nat.mul_left_comm, Nat.mul_comm]
  omega
theorem ls_bounds {D S : Nat → Nat} {nd L k : Nat} (hn : 1 ≤ nd) (hd : Dig D nd) (h0 : 49 ≤ D 0) (hL : L ≤ k) (hs : num S L = 5 ^ k) (h1 : 1 ≤ L) (hS : Dig S L) (hS0 : 49 ≤ S 0) :
    (numP D nd L < num S L → 10 ^ (nd + (k - L) - 1) ≤ num D nd * 2 ^ k ∧ num D nd * 2 ^ k < 10 ^ (nd + (k - L))) ∧
    (¬ numP D nd L < num S L → 10 ^ (nd + (k - L)) ≤ num D nd * 2 ^ k ∧ num D nd * 2 ^ k < 10 ^ (nd + (k - L) + 1)) := by
  obtain ⟨m, rfl⟩ : ∃ m, nd = m + 1 := ⟨nd - 1, by omega⟩
  obtain ⟨l, rfl⟩ : ∃ l, L = l + 1 := ⟨L - 1, by omega⟩
  have a1 := num_lt (m + 1) hd
  have a2 := num_ge h0 m
  have b1 := num_lt (l + 1) hS
  have b2 := num_ge hS0 l
  rw [hs] at b1 b2 ⊢
  have t : (10:Nat) ^ k = 5 ^ k * 2 ^ k := by rw [← Nat.mul_pow]
  have t2 : (10:Nat) ^ k = 10 ^ (l + 1) * 10 ^ (k - (l + 1)) := by rw [← Nat.pow_add]; congr 1; omega
  have p2 : 0 < (2:Nat) ^ k := Nat.pow_pos (by omega)
  have pl : 0 < (10:Nat) ^ (l + 1) := Nat.pow_pos (by omega)
  -- the comparison, cross-multiplied
  have key : numP D (m + 1) (l + 1) < 5 ^ k ↔ num D (m + 1) * 10 ^ (l + 1) < 5 ^ k * 10 ^ (m + 1) := by
    by_cases hle : l + 1 ≤ m + 1
    · have hq : num D (l + 1) = num D (m + 1) / 10 ^ (m + 1 - (l + 1)) := by
        have step : ∀ j, l + 1 + j ≤ m + 1 → num D (l + 1) = num D (l + 1 + j) / 10 ^ j := by
          intro j
          induction j with
          | zero => intro _; simp
          | succ j ih =>
            intro hj
            have hdj := hd (l + 1 + j) (by omega)
            have : num D (l + 1 + (j + 1)) = num D (l + 1 + j) * 10 + (D (l + 1 + j) - 48) := rfl
            rw [ih (by omega), this, Nat.pow_succ, Nat.mul_comm (10 ^ j) 10, ← Nat.div_div_eq_div_mul]
            congr 1; omega
        have := step (m + 1 - (l + 1)) (by omega)
        rwa [Nat.add_sub_cancel' hle] at this
      rw [numP_le hle, hq]
      have e : (10:Nat) ^ (m + 1) = 10 ^ (l + 1) * 10 ^ (m + 1 - (l + 1)) := by rw [← Nat.pow_add]; congr 1; omega
      rw [Nat.div_lt_iff_lt_mul (Nat.pow_pos (by omega)), e, Nat.mul_left_comm, Nat.mul_comm (num D (m + 1))]
      exact (Nat.mul_lt_mul_left pl).symm
    · have hge : m + 1 ≤ l + 1 := by omega
      rw [numP_ge hge]
      have e : (10:Nat) ^ (l + 1) = 10 ^ (l + 1 - (m + 1)) * 10 ^ (m + 1) := by rw [← Nat.pow_add]; congr 1; omega
      rw [e, ← Nat.mul_assoc]
      exact (Nat.mul_lt_mul_right (Nat.pow_pos (by omega))).symm
  rw [key]
  generalize hx : num D (m + 1) = x at *
  have e0 : (10:Nat) ^ (m + 1 + (k - (l + 1))) = 10 ^ (m + 1) * 10 ^ (k - (l + 1)) := Nat.pow_add ..
  -- multiply the comparison by 2^k
  have cross : x * 10 ^ (l + 1) < 5 ^ k * 10 ^ (m + 1) ↔ x * 2 ^ k < 10 ^ (m + 1 + (k - (l + 1))) := by
    rw [← Nat.mul_lt_mul_right p2 (b := x * 10 ^ (l + 1)) (c := 5 ^ k * 10 ^ (m + 1)), ← Nat.mul_lt_mul_left pl (b := x * 2 ^ k), e0]
    have u1 : x * 10 ^ (l + 1) * 2 ^ k = 10 ^ (l + 1) * (x * 2 ^ k) := by simp only [Nat.mul_assoc, Nat.mul_comm, Nat.mul_left_comm]
    have u2 : 5 ^ k * 10 ^ (m + 1) * 2 ^ k = 10 ^ (l + 1) * (10 ^ (m + 1) * 10 ^ (k - (l + 1))) := by
      rw [Nat.mul_right_comm, ← t, t2]; simp only [Nat.mul_assoc, Nat.mul_comm, Nat.mul_left_comm]
    rw [u1, u2]
  constructor
  · intro h
    refine ⟨?_, cross.mp h⟩
    -- 10^m * 10^(k-l-1) ≤ 10^m * 2^k
    have e1 : m + 1 + (k - (l + 1)) - 1 = m + (k - (l + 1)) := by omega
    rw [e1, Nat.pow_add]
    refine Nat.mul_le_mul a2 ?_
    refine Nat.le_of_mul_le_mul_left ?_ pl
    rw [← t2, t]
    exact Nat.mul_le_mul_right _ (Nat.le_of_lt b1)
  · intro h
    refine ⟨Nat.le_of_not_lt (fun h' => h (cross.mpr h')), ?_⟩
    have e1 : m + 1 + (k - (l + 1)) + 1 = (m + 1) + (k - l) := by omega
    rw [e1, Nat.pow_add]
    have t3 : (10:Nat) ^ k = 10 ^ l * 10 ^ (k - l) := by rw [← Nat.pow_add]; congr 1; omega
    have q : 2 ^ k ≤ 10 ^ (k - l) := by
      refine Nat.le_of_mul_le_mul_left ?_ (Nat.pow_pos (by omega : 0 < 10) : 0 < 10 ^ l)
      rw [← t3, t]
      exact Nat.mul_le_mul_right _ b2
    exact Nat.lt_of_lt_of_le (Nat.mul_lt_mul_of_pos_right a1 p2) (Nat.mul_le_mul_left _ q)
/-- The comparison of a prefix, by its three ends. -/
theorem num_split {D : Nat → Nat} (i : Nat) : ∀ j, Dig D (i + j) → num D i * 10 ^ j ≤ num D (i + j) ∧ num D (i + j) < (num D i + 1) * 10 ^ j
  | 0, _ => by simp
  | j + 1, h => by
    have ih := num_split i j (fun k hk => h k (by omega))
    have hd := h (i + j) (by omega)
    have e : num D (i + (j + 1)) = num D (i + j) * 10 + (D (i + j) - 48) := rfl
    rw [e, Nat.pow_succ, ← Nat.mul_assoc, ← Nat.mul_assoc]
    omega
theorem numP_dig {D : Nat → Nat} {nd : Nat} (hd : Dig D nd) (L : Nat) : ∃ D', Dig D' L ∧ (∀ j, j < nd → D' j = D j) ∧ (∀ j, nd ≤ j → D' j = 48) ∧ numP D nd L = num D' L := by
  refine ⟨fun j => if j < nd then D j else 48, ?_, fun j hj => by simp [hj], fun j hj => by simp; omega, ?_⟩
  · intro j hj
    by_cases h : j < nd
    · simp [h]; exact hd j h
    · simp [h]
  · by_cases h : L ≤ nd
    · rw [numP_le h]; exact num_congr L (fun j hj => by simp; omega)
    · have hge : nd ≤ L := by omega
      rw [numP_ge hge]
      have := num_zeros (D := fun j => if j < nd then D j else 48) nd (L - nd) (fun k a b => by simp; omega)
      rw [Nat.add_sub_cancel' hge] at this
      rw [this]; congr 1
      exact num_congr nd (fun j hj => by simp [hj])
theorem less_of {D S : Nat → Nat} {L i : Nat} (hD : Dig D L) (hS : Dig S L) (hi : i < L) (he : ∀ j, j < i → D j = S j) (h : D i < S i) : num D L < num S L := by
  obtain ⟨m, rfl⟩ : ∃ m, L = i + 1 + m := ⟨L - (i + 1), by omega⟩
  have a := (num_split (D := D) (i + 1) m hD).2
  have b := (num_split (D := S) (i + 1) m hS).1
  have e := num_congr i he
  have hd := hD i (by omega)
  have : num D (i + 1) + 1 ≤ num S (i + 1) := by simp only [num, e]; omega
  exact Nat.lt_of_lt_of_le a (Nat.le_trans (Nat.mul_le_mul_right _ this) b)
end Go.Proofs.Qxb6600776aDoor
