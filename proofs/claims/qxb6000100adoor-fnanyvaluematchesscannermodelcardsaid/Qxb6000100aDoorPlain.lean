/-
  SEAT b6000100aD: WHAT IS OF NO PROGRAM: a line is a function B of places, n its length.
-/
namespace Go.Proofs.Qxb6000100aDoor.Pl

/-- anyValue's reader of a string: from place j on, an escape and the byte behind it are passed by. -/
def strEnd (B : Nat → Int) (n : Nat) : Nat → Nat → Option Nat
  | 0, _ => none
  | f + 1, j => if n ≤ j then none else if B j = 92 then strEnd B n f (j + 2) else if B j = 34 then some (j + 1) else strEnd B n f (j + 1)

/-- How many backslashes stand right ahead of place j, back to place i + 1. -/
def bsRun (B : Nat → Int) (i : Nat) : Nat → Nat
  | 0 => 0
  | j + 1 => if i < j ∧ B j = 92 then bsRun B i j + 1 else 0

def qual (B : Nat → Int) (i j : Nat) : Prop := B j = 34 ∧ bsRun B i j % 2 = 0
/-- The model's: the first quote behind an even run. -/
def quotedM (B : Nat → Int) (n i : Nat) : Nat → Nat → Option Nat
  | 0, _ => none
  | f + 1, j => if n ≤ j then none else if B j = 34 ∧ bsRun B i j % 2 = 0 then some (j + 1) else quotedM B n i f (j + 1)

def endOf : Option Nat → Int
  | some e => e
  | none => -1

theorem strEnd_le (B : Nat → Int) (n : Nat) : ∀ (f j e : Nat), strEnd B n f j = some e → j < e ∧ e ≤ n
  | 0, _, _, h => by simp [strEnd] at h
  | f + 1, j, e, h => by
    unfold strEnd at h
    by_cases h1 : n ≤ j
    · rw [if_pos h1] at h; simp at h
    · rw [if_neg h1] at h
      by_cases h2 : B j = 92
      · rw [if_pos h2] at h
        have := strEnd_le B n f (j + 2) e h
        omega
      · rw [if_neg h2] at h
        by_cases h3 : B j = 34
        · rw [if_pos h3] at h
          simp at h; omega
        · rw [if_neg h3] at h
          have := strEnd_le B n f (j + 1) e h
          omega

theorem quotedM_le (B : Nat → Int) (n i : Nat) : ∀ (f j e : Nat), quotedM B n i f j = some e → j < e ∧ e ≤ n
  | 0, _, _, h => by simp [quotedM] at h
  | f + 1, j, e, h => by
    unfold quotedM at h
    by_cases h1 : n ≤ j
    · rw [if_pos h1] at h; simp at h
    · rw [if_neg h1] at h
      by_cases h2 : B j = 34 ∧ bsRun B i j % 2 = 0
      · rw [if_pos h2] at h
        simp at h; omega
      · rw [if_neg h2] at h
        have := quotedM_le B n i f (j + 1) e h
        omega

/-- Where the model finds the string's end, the reader finds it. -/
theorem quoted_str (B : Nat → Int) (n i : Nat) : ∀ (f p e : Nat), i < p → bsRun B i p % 2 = 0 → quotedM B n i f p = some e → ∃ g, strEnd B n g p = some e
  | 0, _, _, _, _, h => by simp [quotedM] at h
  | f + 1, p, e, hip, hev, h => by
    unfold quotedM at h
    by_cases h1 : n ≤ p
    · rw [if_pos h1] at h; simp at h
    rw [if_neg h1] at h
    by_cases h2 : B p = 34 ∧ bsRun B i p % 2 = 0
    · rw [if_pos h2] at h
      refine ⟨1, ?_⟩
      unfold strEnd
      rw [if_neg h1, if_neg (by omega), if_pos h2.1]
      exact h
    rw [if_neg h2] at h
    by_cases h3 : B p = 92
    · have hr1 : bsRun B i (p + 1) = bsRun B i p + 1 := by simp only [bsRun]; rw [if_pos ⟨hip, h3⟩]
      match f, h with
      | 0, h => simp [quotedM] at h
      | f + 1, h =>
        unfold quotedM at h
        by_cases h4 : n ≤ p + 1
        · rw [if_pos h4] at h; simp at h
        rw [if_neg h4] at h
        rw [if_neg (by rw [hr1]; omega)] at h
        have hr2 : bsRun B i (p + 1 + 1) % 2 = 0 := by
          simp only [bsRun]
          by_cases h5 : B (p + 1) = 92
          · rw [if_pos ⟨by omega, h5⟩, if_pos ⟨hip, h3⟩]; omega
          · rw [if_neg (by omega)]
        obtain ⟨g, hg⟩ := quoted_str B n i f (p + 1 + 1) e (by omega) hr2 h
        refine ⟨g + 1, ?_⟩
        unfold strEnd
        rw [if_neg h1, if_pos h3]
        exact hg
    · have hr : bsRun B i (p + 1) % 2 = 0 := by
        simp only [bsRun]; rw [if_neg (by omega)]
      obtain ⟨g, hg⟩ := quoted_str B n i f (p + 1) e (by omega) hr h
      refine ⟨g + 1, ?_⟩
      unfold strEnd
      rw [if_neg h1, if_neg h3, if_neg (by omega)]
      exact hg

/-- The model's one-pass machine over a bracketed value. -/
def nest (B : Nat → Int) (n : Nat) : Nat → Nat → Int → Bool → Bool → Option Nat
  | 0, _, _, _, _ => none
  | f + 1, j, d, true, true => if n ≤ j then none else nest B n f (j + 1) d true false
  | f + 1, j, d, true, false => if n ≤ j then none else if B j = 92 then nest B n f (j + 1) d true true else if B j = 34 then nest B n f (j + 1) d false false else nest B n f (j + 1) d true false
  | f + 1, j, d, false, x => if n ≤ j then none else if B j = 34 then nest B n f (j + 1) d true x else if B j = 123 ∨ B j = 91 then nest B n f (j + 1) (d + 1) false x
      else if B j = 125 ∨ B j = 93 then (if d - 1 = 0 then some (j + 1) else nest B n f (j + 1) (d - 1) false x) else nest B n f (j + 1) d false x

theorem nest_le (B : Nat → Int) (n : Nat) : ∀ (f j : Nat) (d : Int) (s x : Bool) (e : Nat), nest B n f j d s x = some e → j < e ∧ e ≤ n
  | 0, _, _, _, _, _, h => by simp [nest] at h
  | f + 1, j, d, s, x, e, h => by
    have ih := nest_le B n f (j + 1)
    cases s with
    | true =>
      cases x with
      | true =>
        unfold nest at h
        split at h
        · simp at h
        · have := ih _ _ _ _ h; omega
      | false =>
        unfold nest at h
        split at h
        · simp at h
        · split at h
          · have := ih _ _ _ _ h; omega
          · split at h
            · have := ih _ _ _ _ h; omega
            · have := ih _ _ _ _ h; omega
    | false =>
      unfold nest at h
      split at h
      · simp at h
      · split at h
        · have := ih _ _ _ _ h; omega
        · split at h
          · have := ih _ _ _ _ h; omega
          · split at h
            · split at h
              · simp at h; omega
              · have := ih _ _ _ _ h; omega
            · have := ih _ _ _ _ h; omega

/-- Inside a string the machine comes to the string's end, as the reader does, and goes on there. -/
theorem nest_str (B : Nat → Int) (n : Nat) : ∀ (f p : Nat) (d : Int) (m : Nat), nest B n f p d true false = some m → ∃ g e g', strEnd B n g p = some e ∧ nest B n g' e d false false = some m
  | 0, _, _, _, h => by simp [nest] at h
  | f + 1, p, d, m, h => by
    unfold nest at h
    by_cases h1 : n ≤ p
    · rw [if_pos h1] at h; simp at h
    rw [if_neg h1] at h
    by_cases h2 : B p = 92
    · rw [if_pos h2] at h
      match f, h with
      | 0, h => simp [nest] at h
      | f + 1, h =>
        unfold nest at h
        by_cases h3 : n ≤ p + 1
        · rw [if_pos h3] at h; simp at h
        rw [if_neg h3] at h
        obtain ⟨g, e, g', a, b⟩ := nest_str B n f (p + 1 + 1) d m h
        refine ⟨g + 1, e, g', ?_, b⟩
        unfold strEnd
        rw [if_neg h1, if_pos h2]
        exact a
    · rw [if_neg h2] at h
      by_cases h3 : B p = 34
      · rw [if_pos h3] at h
        refine ⟨1, p + 1, f, ?_, h⟩
        unfold strEnd
        rw [if_neg h1, if_neg h2, if_pos h3]
      · rw [if_neg h3] at h
        obtain ⟨g, e, g', a, b⟩ := nest_str B n f (p + 1) d m h
        refine ⟨g + 1, e, g', ?_, b⟩
        unfold strEnd
        rw [if_neg h1, if_neg h2, if_neg h3]
        exact a

def delim (c : Int) : Bool := c == 44 || (c == 125 || (c == 32 || (c == 9 || (c == 13 || c == 10))))
/-- The first delimiter from place j on. -/
def bare (B : Nat → Int) (n : Nat) : Nat → Nat → Option Nat
  | 0, _ => none
  | f + 1, j => if n ≤ j then none else if delim (B j) = true then some j else bare B n f (j + 1)
theorem bare_spec (B : Nat → Int) (n : Nat) : ∀ (f j m : Nat), bare B n f j = some m → j ≤ m ∧ m < n ∧ delim (B m) = true ∧ ∀ k, j ≤ k → k < m → delim (B k) = false
  | 0, _, _, h => by simp [bare] at h
  | f + 1, j, m, h => by
    unfold bare at h
    by_cases h1 : n ≤ j
    · rw [if_pos h1] at h; simp at h
    rw [if_neg h1] at h
    by_cases h2 : delim (B j) = true
    · rw [if_pos h2] at h
      simp at h; subst h
      exact ⟨by omega, by omega, h2, fun k a b => by omega⟩
    · rw [if_neg h2] at h
      obtain ⟨a, b, c, d⟩ := bare_spec B n f (j + 1) m h
      refine ⟨by omega, b, c, fun k h3 h4 => ?_⟩
      by_cases e : k = j
      · subst e; simpa using h2
      · exact d k (by omega) h4

/-- WHERE THE VALUE AT PLACE i ENDS, by the law's own model. -/
def modelEnd (B : Nat → Int) (n i : Nat) : Option Nat :=
  if B i = 34 then quotedM B n i n (i + 1) else if B i = 123 ∨ B i = 91 then nest B n n (i + 1) 1 false false else bare B n n i
end Go.Proofs.Qxb6000100aDoor.Pl
