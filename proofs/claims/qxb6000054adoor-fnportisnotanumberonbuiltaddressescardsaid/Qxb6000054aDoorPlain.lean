import Derived.Lib.SlTrimSet
import Derived.Lib.LastIndexByte
import Derived.Lib.Bytealg
namespace Go.Proofs.Qxb6000054aDoor.Pl
open Go

def nd (c : UInt8) : Bool := !(decide (48 ≤ c.toNat) && decide (c.toNat ≤ 57))
def digits : List UInt8 := [48, 49, 50, 51, 52, 53, 54, 55, 56, 57]
def ans (h p : List UInt8) : Bool := (!(h.contains 58) || (h.head? == some 91 && h.getLast? == some 93)) && p.any nd

theorem digits_nd (c : UInt8) : digits.contains c = !nd c := by
  have h : ∀ n : Fin 256, digits.contains (UInt8.ofNat n.val) = !nd (UInt8.ofNat n.val) := by decide +kernel
  have := h ⟨c.toNat, UInt8.toNat_lt c⟩
  simpa using this

theorem dw_nil (p : UInt8 → Bool) : ∀ l : List UInt8, (l.dropWhile p).isEmpty = l.all p
  | [] => rfl
  | a :: r => by
    simp only [List.dropWhile, List.all_cons]
    cases h : p a with
    | true => simpa using dw_nil p r
    | false => rfl

theorem dw_head (p : UInt8 → Bool) : ∀ l : List UInt8, (l.dropWhile p).all p = l.all p
  | [] => rfl
  | a :: r => by
    simp only [List.dropWhile]
    cases h : p a with
    | true => simpa [h] using dw_head p r
    | false => rfl

theorem trim_empty (l : List UInt8) : (Lib.trimS l digits).isEmpty = !l.any nd := by
  unfold Lib.trimS Lib.trimLeftS Lib.trimRightS
  rw [dw_nil, List.all_reverse, dw_head, List.all_reverse]
  rw [show (fun x => digits.contains x) = fun x => !nd x from funext digits_nd, List.not_any_eq_all_not]

def ndAfter (l : List UInt8) : Bool := l.foldl (fun b c => if c == 58 then false else b || nd c) false
theorem ndAfter_snoc (l : List UInt8) (c : UInt8) : ndAfter (l ++ [c]) = if c == 58 then false else ndAfter l || nd c := by
  unfold ndAfter; rw [List.foldl_append]; rfl
theorem fold_free : ∀ (l : List UInt8) (b : Bool), (∀ x ∈ l, x ≠ 58) → l.foldl (fun b c => if c == 58 then false else b || nd c) b = (b || l.any nd)
  | [], b, _ => by simp
  | a :: r, b, h => by
    rw [List.foldl_cons, fold_free r _ (fun x hx => h x (List.mem_cons_of_mem _ hx))]
    have : (a == 58) = false := by simpa using h a (List.mem_cons_self ..)
    rw [this]
    simp [Bool.or_assoc]
theorem ndAfter_split (h p : List UInt8) (hp : ∀ x ∈ p, x ≠ 58) : ndAfter (h ++ 58 :: p) = p.any nd := by
  unfold ndAfter
  rw [List.foldl_append, List.foldl_cons, fold_free _ _ hp]
  simp

def cnt (l : List UInt8) : Int := (l.count 58 : Nat)
theorem cnt_le (l : List UInt8) : 0 ≤ cnt l ∧ cnt l ≤ l.length := by
  unfold cnt; exact ⟨by omega, by have := List.count_le_length (a := (58 : UInt8)) (l := l); omega⟩
theorem cnt_snoc (l : List UInt8) (c : UInt8) : cnt (l ++ [c]) = cnt l + if (c.toNat : Int) = 58 then 1 else 0 := by
  unfold cnt
  rw [List.count_append, List.count_singleton]
  have e : (c == (58 : UInt8)) = decide ((c.toNat : Int) = 58) := by
    rw [Bool.eq_iff_iff]
    simp only [beq_iff_eq, decide_eq_true_eq]
    constructor
    · rintro rfl; rfl
    · intro h; exact UInt8.toNat_inj.1 (by rw [show c.toNat = 58 by omega]; rfl)
  rw [e]
  by_cases h : (c.toNat : Int) = 58 <;> simp [h]
theorem nd_no (c : UInt8) (h1 : 48 ≤ (c.toNat : Int)) (h2 : (c.toNat : Int) ≤ 57) : nd c = false := by
  have a : 48 ≤ c.toNat := by omega
  have b : c.toNat ≤ 57 := by omega
  simp [nd, a, b]
theorem nd_yes (c : UInt8) (h : (c.toNat : Int) < 48 ∨ 57 < (c.toNat : Int)) : nd c = true := by
  unfold nd
  rcases h with h | h
  · have a : ¬ 48 ≤ c.toNat := by omega
    simp [a]
  · have a : ¬ c.toNat ≤ 57 := by omega
    simp [a]
theorem byte_eq (c d : UInt8) (h : (c.toNat : Int) = d.toNat) : c = d := UInt8.toNat_inj.1 (by omega)
theorem take_snoc (s : ByteArray) (k : Nat) (h : k < s.size) : s.data.toList.take (k + 1) = s.data.toList.take k ++ [s[k]] := by
  rw [List.take_succ_eq_append_getElem (by simpa using h)]; rfl
theorem data_at (s : ByteArray) (k : Nat) (h : k < s.size) : s.data[k]! = s[k] := by
  rw [getElem!_pos s.data k h]; rfl
theorem lidx_hit (s : ByteArray) (k : Nat) (h : k < s.size) (hc : (s[k].toNat : Int) = 58) : Lib.lastIdx s 58 (k + 1) = k :=
  Lib.lastIdx_hit s 58 k (by rw [data_at s k h]; exact hc)
theorem lidx_miss (s : ByteArray) (k : Nat) (h : k < s.size) (hc : ¬ (s[k].toNat : Int) = 58) : Lib.lastIdx s 58 (k + 1) = Lib.lastIdx s 58 k :=
  Lib.lastIdx_miss s 58 k (by rw [data_at s k h]; exact hc)
theorem lidx_range (s : ByteArray) : ∀ k : Nat, -1 ≤ Lib.lastIdx s 58 k ∧ Lib.lastIdx s 58 k < k
  | 0 => by simp [Lib.lastIdx]
  | k + 1 => by
    have := lidx_range s k
    unfold Lib.lastIdx
    split <;> omega
/-- Where the last colon stands: what is ahead of it, what is behind. -/
theorem split_at (s : ByteArray) (i : Nat) (h : i < s.size) (hc : (s[i].toNat : Int) = 58) :
    s.data.toList = s.data.toList.take i ++ 58 :: s.data.toList.drop (i + 1) := by
  have h' : i < s.data.toList.length := by simpa using h
  have e : s.data.toList[i] = 58 := byte_eq _ 58 hc
  rw [← e, List.getElem_cons_drop h', List.take_append_drop]
/-- THE MODEL's ANSWER, with the last colon at i. -/
def modB (s : ByteArray) (i : Nat) : Bool :=
  !(decide (2 ≤ cnt s.data.toList) && !(s.data.toList.head? == some 91 && s.data.toList[i - 1]? == some 93)) && (decide (i + 1 < s.size) && ndAfter s.data.toList)
theorem modB_eq (s : ByteArray) (i : Nat) (h : i < s.size) (hc : (s[i].toNat : Int) = 58) (hn : ∀ x ∈ s.data.toList.drop (i + 1), x ≠ 58) :
    modB s i = ans (s.data.toList.take i) (s.data.toList.drop (i + 1)) := by
  have hsp := split_at s i h hc
  have hnd : ndAfter s.data.toList = (s.data.toList.drop (i + 1)).any nd := by rw [hsp, ndAfter_split _ _ hn, ← hsp]
  have hct : cnt s.data.toList = (s.data.toList.take i).count 58 + 1 := by
    unfold cnt
    conv => lhs; rw [hsp]
    rw [List.count_append, List.count_cons_self, List.count_eq_zero.2 (fun hm => hn 58 hm rfl)]
    simp
  unfold modB ans
  rw [hnd, hct]
  have hlen : i < s.data.toList.length := by simpa using h
  generalize hL : s.data.toList = l at *
  have hsz : s.size = l.length := by rw [← hL]; simp
  have h2 : decide (2 ≤ (((l.take i).count 58 : Nat) : Int) + 1) = (l.take i).contains 58 := by
    rw [Bool.eq_iff_iff]
    simp only [decide_eq_true_eq, List.contains_iff_mem]
    rw [← List.count_pos_iff]
    omega
  have h3 : (decide (i + 1 < s.size) && (l.drop (i + 1)).any nd) = (l.drop (i + 1)).any nd := by
    by_cases hlt : i + 1 < s.size
    · simp [hlt]
    · have : l.drop (i + 1) = [] := List.drop_eq_nil_of_le (by omega)
      simp [this]
  rw [h2, h3]
  by_cases hcon : (l.take i).contains 58 = true
  · have hne : i ≠ 0 := by rintro rfl; simp at hcon
    have e1 : (l.take i).head? = l.head? := by rw [List.head?_take, if_neg hne]
    have e2 : (l.take i).getLast? = l[i - 1]? := by
      rw [List.getLast?_eq_getElem?, List.length_take, Nat.min_eq_left (by omega), List.getElem?_take_of_lt (by omega)]
    rw [e1, e2, hcon]
    simp
  · have : (l.take i).contains 58 = false := by simpa using hcon
    rw [this]; simp
theorem cnt_pos (s : ByteArray) (i : Nat) (h : i < s.size) (hc : (s[i].toNat : Int) = 58) : 1 ≤ cnt s.data.toList := by
  have hsp := split_at s i h hc
  unfold cnt
  rw [hsp, List.count_append, List.count_cons_self]
  omega
theorem cnt_two (s : ByteArray) (i : Nat) (h : i < s.size) (hc : (s[i].toNat : Int) = 58) (hn : ∀ x ∈ s.data.toList.drop (i + 1), x ≠ 58) (h2 : 2 ≤ cnt s.data.toList) : 1 ≤ i := by
  have hsp := split_at s i h hc
  rcases Nat.eq_zero_or_pos i with rfl | hp
  · exfalso
    unfold cnt at h2
    rw [hsp, List.count_append, List.count_cons_self, List.count_eq_zero.2 (fun hm => hn 58 hm rfl)] at h2
    simp at h2
  · exact hp

theorem cnt_zero (s : ByteArray) (h : ∀ j, j < s.size → ((s.data[j]!).toNat : Int) ≠ 58) : cnt s.data.toList = 0 := by
  unfold cnt
  rw [List.count_eq_zero.2]
  · rfl
  · intro hm
    obtain ⟨j, hj, e⟩ := List.mem_iff_getElem.1 hm
    have hj' : j < s.size := by simpa using hj
    refine h j hj' ?_
    rw [data_at s j hj', show s[j] = 58 from e]; rfl
theorem drop_free (s : ByteArray) (i : Nat) (h : ∀ j, i < j → j < s.size → ((s.data[j]!).toNat : Int) ≠ 58) : ∀ x ∈ s.data.toList.drop (i + 1), x ≠ 58 := by
  intro x hx e
  obtain ⟨j, hj, ej⟩ := List.mem_iff_getElem.1 hx
  rw [List.getElem_drop] at ej
  have hj' : i + 1 + j < s.size := by
    have : (s.data.toList.drop (i + 1)).length = s.size - (i + 1) := by simp
    omega
  refine h (i + 1 + j) (by omega) hj' ?_
  rw [data_at s _ hj', show s[i + 1 + j] = 58 from ej.trans e]; rfl
theorem head_at (s : ByteArray) (h : 0 < s.size) : s.data.toList.head? = some s[0] := by
  rw [List.head?_eq_getElem?, List.getElem?_eq_getElem (by simpa using h)]; rfl
theorem list_at (s : ByteArray) (i : Nat) (h : i < s.size) : s.data.toList[i]? = some s[i] := by
  rw [List.getElem?_eq_getElem (by simpa using h)]; rfl
theorem modB_one (s : ByteArray) (i : Nat) (h : ¬ 2 ≤ cnt s.data.toList) : modB s i = (decide (i + 1 < s.size) && ndAfter s.data.toList) := by
  unfold modB; simp [h]
theorem beq_byte (c d : UInt8) : (some c == some d) = ((c.toNat : Int) == d.toNat) := by
  rw [Bool.eq_iff_iff]
  simp only [beq_iff_eq, Option.some.injEq]
  exact ⟨fun h => by rw [h], byte_eq c d⟩
theorem modB_two (s : ByteArray) (i : Nat) (h : 2 ≤ cnt s.data.toList) (h0 : 0 < s.size) (hi : i - 1 < s.size) :
    modB s i = (((((s[0].toNat : Int) == 91)) && ((s[i - 1].toNat : Int) == 93)) && (decide (i + 1 < s.size) && ndAfter s.data.toList)) := by
  unfold modB
  rw [head_at s h0, list_at s _ hi, beq_byte, beq_byte]
  simp [h]
end Go.Proofs.Qxb6000054aDoor.Pl
