import Derived.Test.Qxb6000100aDoorPlain
import Derived.Lib.DecodeN
import Derived.Lib.Index
import Derived.Lib.Bytealg
set_option linter.unusedSimpArgs false
set_option linter.unusedVariables false
namespace Go.Proofs.Qxb6000100aDoor.Pl
open Go Go.Lib

/-- What the decoder gives at a first byte beyond ASCII. -/
theorem dec_facts (n b0 b1 b2 b3 : Nat) (hn : 1 ≤ n) (h0 : 128 ≤ b0) (hb0 : b0 < 256) :
    128 ≤ (decodeN n b0 b1 b2 b3).1 ∧ (decodeN n b0 b1 b2 b3).1 ≤ 1114111 ∧ 1 ≤ (decodeN n b0 b1 b2 b3).2 ∧ (decodeN n b0 b1 b2 b3).2 ≤ 4 ∧ (decodeN n b0 b1 b2 b3).2 ≤ n ∧
    (1 < (decodeN n b0 b1 b2 b3).2 → 128 ≤ b1) ∧ (2 < (decodeN n b0 b1 b2 b3).2 → 128 ≤ b2) ∧ (3 < (decodeN n b0 b1 b2 b3).2 → 128 ≤ b3) ∧
    (¬ (decodeN n b0 b1 b2 b3).1 = 65533 →
      ((decodeN n b0 b1 b2 b3).2 = 2 ∧ (decodeN n b0 b1 b2 b3).1 < 2048) ∨
      ((decodeN n b0 b1 b2 b3).2 = 3 ∧ 2048 ≤ (decodeN n b0 b1 b2 b3).1 ∧ (decodeN n b0 b1 b2 b3).1 < 65536 ∧ ((decodeN n b0 b1 b2 b3).1 < 55296 ∨ 57344 ≤ (decodeN n b0 b1 b2 b3).1)) ∨
      ((decodeN n b0 b1 b2 b3).2 = 4 ∧ 65536 ≤ (decodeN n b0 b1 b2 b3).1)) := by
  unfold decodeN
  rw [if_neg (by omega)]
  by_cases c1 : b0 / 32 = 6 ∧ (1 < n ∧ b1 / 64 = 2)
  · rw [if_pos c1]
    split
    · refine ⟨?_, ?_, ?_, ?_, ?_, ?_, ?_, ?_, ?_⟩ <;> dsimp only <;> omega
    · refine ⟨?_, ?_, ?_, ?_, ?_, ?_, ?_, ?_, ?_⟩ <;> dsimp only <;> omega
  · rw [if_neg c1]
    by_cases c2 : b0 / 16 = 14 ∧ (1 < n ∧ b1 / 64 = 2) ∧ (2 < n ∧ b2 / 64 = 2)
    · rw [if_pos c2]
      split
      · refine ⟨?_, ?_, ?_, ?_, ?_, ?_, ?_, ?_, ?_⟩ <;> dsimp only <;> omega
      · refine ⟨?_, ?_, ?_, ?_, ?_, ?_, ?_, ?_, ?_⟩ <;> dsimp only <;> omega
    · rw [if_neg c2]
      by_cases c3 : b0 / 8 = 30 ∧ (1 < n ∧ b1 / 64 = 2) ∧ (2 < n ∧ b2 / 64 = 2) ∧ (3 < n ∧ b3 / 64 = 2)
      · rw [if_pos c3]
        split
        · refine ⟨?_, ?_, ?_, ?_, ?_, ?_, ?_, ?_, ?_⟩ <;> dsimp only <;> omega
        · refine ⟨?_, ?_, ?_, ?_, ?_, ?_, ?_, ?_, ?_⟩ <;> dsimp only <;> omega
      · rw [if_neg c3]
        refine ⟨?_, ?_, ?_, ?_, ?_, ?_, ?_, ?_, ?_⟩ <;> dsimp only <;> omega

/-- A rune beyond ASCII, written out: so many bytes, the first beyond ASCII. -/
theorem enc2 (r : Nat) (h1 : 128 ≤ r) (h2 : r < 2048) : (Utf8.encode r).size = 2 ∧ ∃ c t, (Utf8.encode r).data.toList = c :: t ∧ 128 ≤ c.toNat := by
  have hv : Utf8.valid (r : Int) = true := by simp [Utf8.valid]; omega
  unfold Utf8.encode
  simp only [hv, if_true, Int.toNat_natCast]
  rw [if_neg (by omega), if_pos (by omega)]
  refine ⟨rfl, _, _, rfl, ?_⟩
  simp only [UInt8.toNat_ofNat']; omega
theorem enc3 (r : Nat) (h1 : 2048 ≤ r) (h2 : r < 65536) (h3 : r < 55296 ∨ 57344 ≤ r) : (Utf8.encode r).size = 3 ∧ ∃ c t, (Utf8.encode r).data.toList = c :: t ∧ 128 ≤ c.toNat := by
  have hv : Utf8.valid (r : Int) = true := by simp [Utf8.valid]; omega
  unfold Utf8.encode
  simp only [hv, if_true, Int.toNat_natCast]
  rw [if_neg (by omega), if_neg (by omega), if_pos (by omega)]
  refine ⟨rfl, _, _, rfl, ?_⟩
  simp only [UInt8.toNat_ofNat']; omega
theorem enc4 (r : Nat) (h1 : 65536 ≤ r) (h2 : r ≤ 1114111) : (Utf8.encode r).size = 4 ∧ ∃ c t, (Utf8.encode r).data.toList = c :: t ∧ 128 ≤ c.toNat := by
  have hv : Utf8.valid (r : Int) = true := by simp [Utf8.valid]; omega
  unfold Utf8.encode
  simp only [hv, if_true, Int.toNat_natCast]
  rw [if_neg (by omega), if_neg (by omega), if_neg (by omega)]
  refine ⟨rfl, _, _, rfl, ?_⟩
  simp only [UInt8.toNat_ofNat']; omega

def cset : List UInt8 := [44, 125, 32, 9, 13, 10]
theorem index_none (c : UInt8) (t : List UInt8) (hc : 128 ≤ c.toNat) : Lib.index cset (c :: t) = -1 := by
  have ne : ∀ d : UInt8, d.toNat < 128 → (c == d) = false := fun d hd => by
    rw [beq_eq_false_iff_ne]; rintro rfl; omega
  have e1 := ne 44 (by decide); have e2 := ne 125 (by decide); have e3 := ne 32 (by decide); have e4 := ne 9 (by decide); have e5 := ne 13 (by decide); have e6 := ne 10 (by decide)
  simp [cset, Lib.index, List.isPrefixOf, e1, e2, e3, e4, e5, e6]

/-- bytealg.IndexByteString(chars, c): found where c is a delimiter. -/
theorem byte_in (c : Int) (h0 : 0 ≤ c) (h1 : c < 256) : decide (0 ≤ Lib.indexByte cset c.toNat.toUInt8) = delim c := by
  have h : ∀ k : Fin 256, decide (0 ≤ Lib.indexByte cset k.val.toUInt8) = delim (k.val : Int) := by decide +kernel
  have := h ⟨c.toNat, by omega⟩
  simp only at this
  rw [this, Int.toNat_of_nonneg h0]
theorem delim_low (c : Int) (h : delim c = true) : 0 ≤ c ∧ c < 128 := by
  simp only [delim, Bool.or_eq_true, beq_iff_eq] at h
  omega
end Go.Proofs.Qxb6000100aDoor.Pl
