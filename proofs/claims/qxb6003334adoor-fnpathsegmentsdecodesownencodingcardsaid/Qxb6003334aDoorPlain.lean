/-
  SEAT b6003334aD: WHAT IS OF NO PROGRAM: texts as lists of bytes: the escapes counted, a text unescaped, a text split at '/'.
-/
import Derived.Lib.SplitLaws
import Derived.Lib.Strings
set_option linter.unusedSimpArgs false
set_option linter.unusedVariables false
namespace Go.Proofs.Qxb6003334aDoor.Pl
open Go

/-- A hex digit. -/
def isHex (c : UInt8) : Bool := (decide (48 ≤ c.toNat) && decide (c.toNat ≤ 57)) || ((decide (97 ≤ c.toNat) && decide (c.toNat ≤ 102)) || (decide (65 ≤ c.toNat) && decide (c.toNat ≤ 70)))
/-- Its value, as net/url reckons it. -/
def hexV (c : UInt8) : Nat := (9 * (c.toNat / 64) + c.toNat % 16) % 256
def byteV (a b : UInt8) : UInt8 := UInt8.ofNat ((hexV a * 16) % 256 ||| hexV b)

/-- How many escapes a text holds; none: a '%' opens no escape. -/
def scanE : List UInt8 → Option Nat
  | [] => some 0
  | [c] => if c = 37 then none else some 0
  | [c, a] => if c = 37 then none else if a = 37 then none else some 0
  | c :: a :: b :: t => if c = 37 then (if isHex a && isHex b then (scanE t).map (· + 1) else none) else scanE (a :: b :: t)
/-- A text unescaped. -/
def unT : List UInt8 → List UInt8
  | [] => []
  | [c] => [c]
  | [c, a] => [c, a]
  | c :: a :: b :: t => if c = 37 then byteV a b :: unT t else c :: unT (a :: b :: t)

theorem scan_plain (c : UInt8) (r : List UInt8) (h : c ≠ 37) : scanE (c :: r) = scanE r := by
  match r with
  | [] => simp [scanE, h]
  | [a] => simp [scanE, h]
  | a :: b :: t => rw [scanE, if_neg h]
theorem scan_esc (a b : UInt8) (t : List UInt8) (h : (isHex a && isHex b) = true) : scanE (37 :: a :: b :: t) = (scanE t).map (· + 1) := by
  rw [scanE, if_pos rfl, if_pos h]
theorem scan_bad (a b : UInt8) (t : List UInt8) (h : (isHex a && isHex b) = false) : scanE (37 :: a :: b :: t) = none := by
  rw [scanE, if_pos rfl, h]; rfl
theorem scan_short0 : scanE [37] = none := rfl
theorem scan_short1 (a : UInt8) : scanE [37, a] = none := rfl
theorem un_plain (c : UInt8) (r : List UInt8) (h : c ≠ 37) : unT (c :: r) = c :: unT r := by
  match r with
  | [] => simp [unT]
  | [a] => simp [unT]
  | a :: b :: t => rw [unT, if_neg h]
theorem un_esc (a b : UInt8) (t : List UInt8) : unT (37 :: a :: b :: t) = byteV a b :: unT t := by
  rw [unT, if_pos rfl]

/-- What stands behind a '%' that opens no escape. -/
def bad : List UInt8 → Prop
  | [] => True
  | [_] => True
  | a :: b :: _ => (isHex a && isHex b) = false
theorem scan_of_bad : ∀ l, bad l → scanE (37 :: l) = none
  | [], _ => rfl
  | [_], _ => rfl
  | a :: b :: t, h => scan_bad a b t h
/-- Every text is read in one of these ways. -/
theorem scan_cases {p : List UInt8 → Prop} (h0 : p []) (h1 : ∀ c r, c ≠ 37 → p r → p (c :: r)) (h2 : ∀ a b t, (isHex a && isHex b) = true → p t → p (37 :: a :: b :: t))
    (h3 : ∀ l, bad l → p (37 :: l)) : ∀ (n : Nat) (l : List UInt8), l.length ≤ n → p l
  | 0, l, h => by
    match l, h with
    | [], _ => exact h0
  | n + 1, l, h => by
    match l, h with
    | [], _ => exact h0
    | c :: r, h =>
      by_cases hc : c = 37
      · subst hc
        match r, h with
        | [], _ => exact h3 _ trivial
        | [a], _ => exact h3 _ trivial
        | a :: b :: t, h =>
          cases hx : (isHex a && isHex b) with
          | true => exact h2 a b t hx (scan_cases h0 h1 h2 h3 n t (by simp at h; omega))
          | false => exact h3 _ hx
      · exact h1 c r hc (scan_cases h0 h1 h2 h3 n r (by simp at h; omega))

theorem un_len : ∀ l : List UInt8, ∀ n, scanE l = some n → (unT l).length + 2 * n = l.length := fun l =>
  scan_cases (p := fun l => ∀ n, scanE l = some n → (unT l).length + 2 * n = l.length)
    (fun n h => by simp [scanE] at h; subst h; rfl)
    (fun c r hc ih n h => by
      rw [scan_plain c r hc] at h
      rw [un_plain c r hc]
      have := ih n h
      simp only [List.length_cons]; omega)
    (fun a b t hx ih n h => by
      rw [scan_esc a b t hx] at h
      rw [un_esc]
      obtain ⟨m, hm, rfl⟩ := Option.map_eq_some_iff.1 h
      have := ih m hm
      simp only [List.length_cons]; omega)
    (fun l h n h' => by rw [scan_of_bad l h] at h'; cases h') l.length l (Nat.le_refl _)
theorem un_zero : ∀ l : List UInt8, scanE l = some 0 → unT l = l := fun l =>
  scan_cases (p := fun l => scanE l = some 0 → unT l = l)
    (fun _ => rfl)
    (fun c r hc ih h => by
      rw [scan_plain c r hc] at h
      rw [un_plain c r hc, ih h])
    (fun a b t hx ih h => by
      rw [scan_esc a b t hx] at h
      obtain ⟨m, hm, e⟩ := Option.map_eq_some_iff.1 h
      omega)
    (fun l h h' => by rw [scan_of_bad l h] at h'; cases h') l.length l (Nat.le_refl _)
theorem scan_le : ∀ l : List UInt8, ∀ n, scanE l = some n → 3 * n ≤ l.length := fun l =>
  scan_cases (p := fun l => ∀ n, scanE l = some n → 3 * n ≤ l.length)
    (fun n h => by simp [scanE] at h; subst h; simp)
    (fun c r hc ih n h => by
      rw [scan_plain c r hc] at h
      have := ih n h
      simp only [List.length_cons]; omega)
    (fun a b t hx ih n h => by
      rw [scan_esc a b t hx] at h
      obtain ⟨m, hm, rfl⟩ := Option.map_eq_some_iff.1 h
      have := ih m hm
      simp only [List.length_cons]; omega)
    (fun l h n h' => by rw [scan_of_bad l h] at h'; cases h') l.length l (Nat.le_refl _)

/-- A text split at '/': the first piece and the rest. -/
def splitH : List UInt8 → List UInt8 × List (List UInt8)
  | [] => ([], [])
  | c :: r => if c = 47 then ([], (splitH r).1 :: (splitH r).2) else (c :: (splitH r).1, (splitH r).2)
def splitL (l : List UInt8) : List (List UInt8) := (splitH l).1 :: (splitH l).2
theorem split_slash (r : List UInt8) : splitL (47 :: r) = [] :: splitL r := by simp [splitL, splitH]
theorem split_cons (c : UInt8) (r : List UInt8) (h : c ≠ 47) : splitL (c :: r) = (c :: (splitH r).1) :: (splitH r).2 := by simp [splitL, splitH, h]
theorem split_len : ∀ l : List UInt8, (splitL l).length = l.count 47 + 1
  | [] => rfl
  | c :: r => by
    have ih := split_len r
    by_cases h : c = 47
    · subst h
      rw [split_slash, List.length_cons, ih, List.count_cons_self]
    · rw [split_cons c r h, List.count_cons_of_ne h]
      exact ih

theorem index_cons_eq (l : List UInt8) : Lib.index (47 :: l) [47] = 0 := by simp [Lib.index, List.isPrefixOf]
theorem index_cons_ne (c : UInt8) (l : List UInt8) (h : c ≠ 47) : Lib.index (c :: l) [47] = if Lib.index l [47] == -1 then -1 else Lib.index l [47] + 1 := by
  have e : ((47 : UInt8) == c) = false := by rw [beq_eq_false_iff_ne]; exact fun e => h e.symm
  rw [Lib.index]
  simp [List.isPrefixOf, e]
theorem index_none_of (l : List UInt8) : Lib.index l [47] = -1 ↔ l.count 47 = 0 := by
  induction l with
  | nil => simp [Lib.index]
  | cons c r ih =>
    by_cases h : c = 47
    · subst h; rw [index_cons_eq, List.count_cons_self]; simp
    · rw [index_cons_ne c r h, List.count_cons_of_ne h, ← ih]
      have hge := Lib.index_ge r [47]
      split
      · rename_i h1; simp at h1; simp [h1]
      · rename_i h1; simp at h1; constructor
        · intro h2; omega
        · intro h2; exact absurd h2 h1
/-- strings.Split at "/" gives these pieces. -/
theorem splitK_is : ∀ l : List UInt8, Lib.splitK [47] 0 (l.count 47) l = splitL l
  | [] => rfl
  | c :: r => by
    have ih := splitK_is r
    by_cases h : c = 47
    · subst h
      rw [List.count_cons_self, Lib.splitK, index_cons_eq, split_slash, ← ih]
      simp
    · rw [List.count_cons_of_ne h, split_cons c r h]
      cases hk : r.count 47 with
      | zero =>
        rw [hk] at ih
        simp only [Lib.splitK] at ih ⊢
        unfold splitL at ih
        simp only [List.cons.injEq] at ih
        rw [← ih.1, ← ih.2]
      | succ k =>
        rw [hk] at ih
        have hne : ¬ Lib.index r [47] = -1 := fun e => by
          have := (index_none_of r).1 e; omega
        have hge := Lib.index_ge r [47]
        obtain ⟨i, hi⟩ : ∃ i : Nat, Lib.index r [47] = i := ⟨(Lib.index r [47]).toNat, by omega⟩
        have e1 : Lib.index (c :: r) [47] = ((i + 1 : Nat) : Int) := by
          rw [index_cons_ne c r h, if_neg (by simpa using hne), hi]; omega
        rw [Lib.splitK, hi, if_neg (by simp only [beq_iff_eq]; omega)] at ih
        rw [Lib.splitK, e1, if_neg (by simp only [beq_iff_eq]; omega)]
        unfold splitL at ih
        simp only [List.cons.injEq, Int.toNat_natCast, Nat.add_zero, List.length_singleton] at ih ⊢
        refine ⟨?_, ?_⟩
        · rw [List.take_succ_cons, ih.1]
        · rw [show i + 1 + 1 = (i + 1) + 1 from rfl, List.drop_succ_cons, ih.2]

def sumLen (ss : List (List UInt8)) : Nat := (ss.map fun s => (unT s).length).sum
theorem sumLen_cons (s : List UInt8) (ss : List (List UInt8)) : sumLen (s :: ss) = (unT s).length + sumLen ss := by simp [sumLen]
theorem hex_not_slash (a : UInt8) (h : isHex a = true) : a ≠ 47 := by
  rintro rfl; revert h; decide
/-- THE LAW OF THE PIECES: a text's escapes are well formed just where each piece's are; then the lengths add up. -/
theorem split_law : ∀ l : List UInt8,
    (∀ n, scanE l = some n → (∀ s ∈ splitL l, ∃ m, scanE s = some m) ∧ sumLen (splitL l) + l.count 47 + 2 * n = l.length) ∧ (scanE l = none → ∃ s ∈ splitL l, scanE s = none) := fun l =>
  scan_cases (p := fun l => (∀ n, scanE l = some n → (∀ s ∈ splitL l, ∃ m, scanE s = some m) ∧ sumLen (splitL l) + l.count 47 + 2 * n = l.length) ∧ (scanE l = none → ∃ s ∈ splitL l, scanE s = none))
    ⟨fun n h => by
      simp [scanE] at h; subst h
      exact ⟨fun s hs => by simp [splitL, splitH] at hs; subst hs; exact ⟨0, rfl⟩, rfl⟩, fun h => by simp [scanE] at h⟩
    (fun c r hc ih => by
      rw [scan_plain c r hc]
      by_cases h47 : c = 47
      · subst h47
        rw [split_slash, List.count_cons_self]
        refine ⟨fun n h => ?_, fun h => ?_⟩
        · obtain ⟨a, b⟩ := ih.1 n h
          refine ⟨fun s hs => ?_, ?_⟩
          · rcases List.mem_cons.1 hs with rfl | hs
            · exact ⟨0, rfl⟩
            · exact a s hs
          · rw [sumLen_cons]; simp only [unT, List.length_nil, List.length_cons]; omega
        · obtain ⟨s, hs, e⟩ := ih.2 h
          exact ⟨s, List.mem_cons_of_mem _ hs, e⟩
      · rw [split_cons c r h47, List.count_cons_of_ne h47]
        unfold splitL at ih
        refine ⟨fun n h => ?_, fun h => ?_⟩
        · obtain ⟨a, b⟩ := ih.1 n h
          refine ⟨fun s hs => ?_, ?_⟩
          · rcases List.mem_cons.1 hs with rfl | hs
            · rw [scan_plain c _ hc]; exact a _ (List.mem_cons_self ..)
            · exact a s (List.mem_cons_of_mem _ hs)
          · rw [sumLen_cons] at b ⊢; rw [un_plain c _ hc]; simp only [List.length_cons]; omega
        · obtain ⟨s, hs, e⟩ := ih.2 h
          rcases List.mem_cons.1 hs with rfl | hs
          · exact ⟨_, List.mem_cons_self .., by rw [scan_plain c _ hc]; exact e⟩
          · exact ⟨s, List.mem_cons_of_mem _ hs, e⟩)
    (fun a b t hx ih => by
      have hab : isHex a = true ∧ isHex b = true := by simpa using hx
      have h1 := hex_not_slash a hab.1
      have h2 := hex_not_slash b hab.2
      have e : splitL (37 :: a :: b :: t) = (37 :: a :: b :: (splitH t).1) :: (splitH t).2 := by
        rw [split_cons 37 _ (by decide)]
        simp [splitH, h1, h2]
      have ec : (37 :: a :: b :: t).count 47 = t.count 47 := by
        rw [List.count_cons_of_ne (by decide), List.count_cons_of_ne h1, List.count_cons_of_ne h2]
      rw [scan_esc a b t hx, e, ec]
      unfold splitL at ih
      refine ⟨fun n h => ?_, fun h => ?_⟩
      · obtain ⟨m, hm, rfl⟩ := Option.map_eq_some_iff.1 h
        obtain ⟨p, q⟩ := ih.1 m hm
        refine ⟨fun s hs => ?_, ?_⟩
        · rcases List.mem_cons.1 hs with rfl | hs
          · obtain ⟨k, hk⟩ := p _ (List.mem_cons_self ..)
            exact ⟨k + 1, by rw [scan_esc a b _ hx, hk]; rfl⟩
          · exact p s (List.mem_cons_of_mem _ hs)
        · rw [sumLen_cons] at q ⊢; rw [un_esc]; simp only [List.length_cons]; omega
      · have hn : scanE t = none := by simpa using h
        obtain ⟨s, hs, e'⟩ := ih.2 hn
        rcases List.mem_cons.1 hs with rfl | hs
        · exact ⟨_, List.mem_cons_self .., by rw [scan_esc a b _ hx, e']; rfl⟩
        · exact ⟨s, List.mem_cons_of_mem _ hs, e'⟩)
    (fun l h => ⟨fun n h' => (by rw [scan_of_bad l h] at h'; cases h'), fun _ => by
      refine ⟨37 :: (splitH l).1, by rw [split_cons 37 l (by decide)]; exact List.mem_cons_self .., ?_⟩
      match l, h with
      | [], _ => rfl
      | [a], _ =>
        by_cases h47 : a = 47
        · subst h47; rfl
        · simp [splitH, h47, scanE]
      | a :: b :: t, h =>
        have hx : (isHex a && isHex b) = false := h
        by_cases ha : a = 47
        · subst ha; simp [splitH, scanE]
        · by_cases hb : b = 47
          · subst hb; simp [splitH, ha, scanE]
          · simp only [splitH, ha, hb, if_false]
            exact scan_bad a b _ hx⟩) l.length l (Nat.le_refl _)

/-! ### the small encoder -/
def unres (c : UInt8) : Bool := (decide (97 ≤ c.toNat) && decide (c.toNat ≤ 122)) || ((decide (65 ≤ c.toNat) && decide (c.toNat ≤ 90)) || ((decide (48 ≤ c.toNat) && decide (c.toNat ≤ 57)) || (c.toNat == 45 || (c.toNat == 46 || (c.toNat == 95 || c.toNat == 126)))))
def hexU (n : Nat) : UInt8 := if n < 10 then UInt8.ofNat (48 + n) else UInt8.ofNat (55 + n)
def encB (c : UInt8) : List UInt8 := if unres c = true then [c] else [37, hexU (c.toNat / 16), hexU (c.toNat % 16)]
def encS (s : List UInt8) : List UInt8 := s.flatMap encB
theorem encB_facts : ∀ k : Fin 256, (unres (UInt8.ofNat k.val) = true → UInt8.ofNat k.val ≠ 37 ∧ UInt8.ofNat k.val ≠ 47) ∧
    ((isHex (hexU (k.val / 16)) && isHex (hexU (k.val % 16))) = true ∧ byteV (hexU (k.val / 16)) (hexU (k.val % 16)) = UInt8.ofNat k.val) := by decide +kernel
theorem enc_unres (c : UInt8) (h : unres c = true) : c ≠ 37 ∧ c ≠ 47 := by
  have := (encB_facts ⟨c.toNat, UInt8.toNat_lt c⟩).1
  simp only [UInt8.ofNat_toNat] at this
  exact this h
theorem enc_hex (c : UInt8) : (isHex (hexU (c.toNat / 16)) && isHex (hexU (c.toNat % 16))) = true ∧ byteV (hexU (c.toNat / 16)) (hexU (c.toNat % 16)) = c := by
  have := (encB_facts ⟨c.toNat, UInt8.toNat_lt c⟩).2
  simp only [UInt8.ofNat_toNat] at this
  exact this
theorem encS_cons (c : UInt8) (s : List UInt8) : encS (c :: s) = encB c ++ encS s := by simp [encS]
theorem encS_ok : ∀ s : List UInt8, (∃ n, scanE (encS s) = some n) ∧ unT (encS s) = s ∧ ∀ x ∈ encS s, x ≠ 47
  | [] => ⟨⟨0, rfl⟩, rfl, fun x hx => by simp [encS] at hx⟩
  | c :: s => by
    obtain ⟨⟨n, hn⟩, hu, hf⟩ := encS_ok s
    rw [encS_cons]
    by_cases h : unres c = true
    · have hc := enc_unres c h
      have e : encB c = [c] := by unfold encB; rw [if_pos h]
      rw [e, List.singleton_append, scan_plain c _ hc.1, un_plain c _ hc.1, hu]
      exact ⟨⟨n, hn⟩, rfl, fun x hx => by
        rcases List.mem_cons.1 hx with rfl | hx
        · exact hc.2
        · exact hf x hx⟩
    · have hx := enc_hex c
      have hab : isHex (hexU (c.toNat / 16)) = true ∧ isHex (hexU (c.toNat % 16)) = true := by simpa using hx.1
      have e : encB c = [37, hexU (c.toNat / 16), hexU (c.toNat % 16)] := by unfold encB; rw [if_neg h]
      rw [e]
      simp only [List.cons_append, List.nil_append]
      rw [scan_esc _ _ _ hx.1, un_esc, hx.2, hu, hn]
      refine ⟨⟨n + 1, rfl⟩, rfl, fun x hx => ?_⟩
      rcases List.mem_cons.1 hx with rfl | hx
      · decide
      rcases List.mem_cons.1 hx with rfl | hx
      · exact hex_not_slash _ hab.1
      rcases List.mem_cons.1 hx with rfl | hx
      · exact hex_not_slash _ hab.2
      · exact hf x hx
theorem encB_len (c : UInt8) : (encB c).length ≤ 3 := by unfold encB; split <;> simp
theorem encS_len : ∀ s : List UInt8, (encS s).length ≤ 3 * s.length
  | [] => by simp [encS]
  | c :: s => by
    rw [encS_cons, List.length_append]
    have := encB_len c
    have := encS_len s
    simp only [List.length_cons]; omega
theorem splitH_free : ∀ l : List UInt8, (∀ x ∈ l, x ≠ 47) → splitH l = (l, [])
  | [], _ => rfl
  | c :: r, h => by
    have hc := h c (List.mem_cons_self ..)
    have ih := splitH_free r (fun x hx => h x (List.mem_cons_of_mem _ hx))
    simp [splitH, hc, ih]
theorem splitH_app : ∀ (a b : List UInt8), (∀ x ∈ a, x ≠ 47) → splitH (a ++ 47 :: b) = (a, splitL b)
  | [], b, _ => by simp [splitH, splitL]
  | c :: r, b, h => by
    have hc := h c (List.mem_cons_self ..)
    have ih := splitH_app r b (fun x hx => h x (List.mem_cons_of_mem _ hx))
    simp [splitH, hc, ih]
/-- The pieces written one behind the other, a '/' ahead of each but the first. -/
def tailP (ss : List (List UInt8)) : List UInt8 := ss.flatMap fun s => 47 :: encS s
theorem split_enc : ∀ (s : List UInt8) (ss : List (List UInt8)), splitL (encS s ++ tailP ss) = encS s :: ss.map encS
  | s, [] => by
    simp only [tailP, List.flatMap_nil, List.append_nil, List.map_nil, splitL, splitH_free _ (encS_ok s).2.2]
  | s, t :: ss => by
    have ih := split_enc t ss
    have e : encS s ++ tailP (t :: ss) = encS s ++ 47 :: (encS t ++ tailP ss) := by simp [tailP]
    rw [e, splitL, splitH_app _ _ (encS_ok s).2.2, ih]
    rfl
end Go.Proofs.Qxb6003334aDoor.Pl
