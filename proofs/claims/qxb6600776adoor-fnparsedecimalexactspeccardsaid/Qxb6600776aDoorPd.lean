import Derived.Test.Qxb6600776aDoorChain
import Derived.Laws.RangeAny
set_option linter.unusedSimpArgs false
set_option linter.unusedVariables false
set_option exponentiation.threshold 10000
namespace Go.Proofs.Qxb6600776aDoor
open Go.RowKit

/-- The bytes ahead of k are of the grammar. -/
def GramTo (s : ByteArray) (k : Nat) : Prop := ∀ j (h : j < s.size), j < k → s[j].toNat = 46 ∨ (48 ≤ s[j].toNat ∧ s[j].toNat ≤ 57)
theorem rk_dig_step {s : ByteArray} {k : Nat} (h : k < s.size) (hc : s[k].toNat = 46 ∨ (48 ≤ s[k].toNat ∧ s[k].toNat ≤ 57)) : (rk s (k + 1)).dig = if s[k].toNat = 46 then (rk s k).dig else true := by
  rw [rk_succ s k h]
  by_cases h46 : s[k].toNat = 46
  · rw [rstep, if_pos h46, if_pos h46]
  · rw [if_neg h46]
    unfold rstep
    rw [if_neg h46]
    split
    · rfl
    · split
      · rfl
      · split <;> rfl
theorem cell_lt {w : World} {g k : Nat} {v : Value} (h : w.cell? ⟨g, k, none⟩ = some v) : g < w.heap.size := by
  by_cases hg : g < w.heap.size
  · exact hg
  · have : w.heap[g]? = none := by simp; omega
    simp [World.cell?, this] at h
theorem Env.below {w w' : World} (h : Env w) (hb : Below w.heap.size w w') : Env w' := by
  obtain ⟨h1, h2, h3, ⟨g, o, c, h4, h5⟩, h6, h7, h8⟩ := h
  have hg : g < w.heap.size := cell_lt (h5 0 (by omega))
  refine ⟨by have := hb.size; omega, by rw [hb.cell (by show 4 < _; omega)]; exact h2, h3.below (by omega) hb, ⟨g, o, c, by rw [hb.cell (by show 8 < _; omega)]; exact h4, fun k hk => by rw [hb.cell (by exact hg)]; exact h5 k hk⟩, (h6.below hb).mono hb.size, (h7.below hb).mono hb.size, (h8.below hb).mono hb.size⟩
theorem iter_below (w : World) (s : ByteArray) (pos : Nat) : Below w.heap.size w (w.iter s pos) := (Below.refl _ w).alloc (Nat.le_refl _) _

set_option maxRecDepth 100000 in
set_option maxHeartbeats 1000000 in
/-- A byte that is none of the grammar's: refused. -/
theorem c15_bad (s : ByteArray) (w : World) (hs : s.size ≤ 1048576) (b0 : Nat) (hb0 : b0 < s.size) (hg : GramTo s b0) (hbad : ¬ (s[b0].toNat = 46 ∨ (48 ≤ s[b0].toNat ∧ s[b0].toNat ≤ 57))) :
    Calls Tryd.prog 15 #[.string s] w fun e w' => e = .returned (.tuple #[.float .f64 0, .bool false]) ∧ Below w.heap.size w w' := by
  have HG := hide hg
  have HB := hide hbad
  clear hg hbad
  go_enter Tryd.func15, Tryd.ntmps15
  go_wp2
  go_loopg [4] s.size (fun g d wr => ∃ pos dn : Nat, g = s.size - pos ∧ pos ≤ b0 ∧ wr = w.iter s pos ∧ d = .int .i64 dn ∧ dn ≤ pos)
  case atStart => exact ⟨0, 0, by omega, by omega, rfl, rfl, by omega⟩
  case round =>
    obtain ⟨pos, dn, rfl, hp, rfl, rfl, hdn⟩ := hrel
    have hlt : pos < s.size := by omega
    by_cases ha : s[pos].toNat < 128
    · have hnx := fun ty => run_next_ascii (P := Tryd.prog) w s pos ty hlt ha
      by_cases hpb : pos = b0
      · subst hpb
        have hbd := unhide HB
        by_cases h48 : 48 ≤ s[pos].toNat
        · have h57 : ¬ s[pos].toNat ≤ 57 := by omega
          have n46 : (((s[pos].toNat : Nat) : Int) != 46) = true := by simp; omega
          have d48 : (48:Int) ≤ ((s[pos].toNat : Nat) : Int) := by omega
          have d57 : ¬ ((s[pos].toNat : Nat) : Int) ≤ 57 := by omega
          clear hbd
          go_wp2
          go_ret2
          exact ⟨rfl, iter_below _ _ _⟩
        · have n46 : (((s[pos].toNat : Nat) : Int) != 46) = true := by simp; omega
          have d48 : ¬ (48:Int) ≤ ((s[pos].toNat : Nat) : Int) := by omega
          clear hbd
          go_wp2
          go_ret2
          exact ⟨rfl, iter_below _ _ _⟩
      · have hok := unhide HG pos hlt (by omega)
        by_cases h46 : s[pos].toNat = 46
        · have n46 : (((s[pos].toNat : Nat) : Int) != 46) = false := by simp; omega
          have d48 : ¬ (48:Int) ≤ ((s[pos].toNat : Nat) : Int) := by omega
          clear hok h46
          go_wp2
          go_roundg (s.size - (pos + 1))
          case measure => omega
          case rel => exact ⟨pos + 1, dn, rfl, by omega, rfl, rfl, by omega⟩
        · have d48 : (48:Int) ≤ ((s[pos].toNat : Nat) : Int) := by omega
          have d57 : ((s[pos].toNat : Nat) : Int) ≤ 57 := by omega
          clear hok h46
          go_wp2
          go_roundg (s.size - (pos + 1))
          case measure => omega
          case rel => exact ⟨pos + 1, dn + 1, rfl, by omega, rfl, rfl, by omega⟩
    · have hnx := fun ty => run_next_any (P := Tryd.prog) w s pos ty hlt
      obtain ⟨u1, u2⟩ := decode_high s pos hlt (by omega)
      have u3 := decode_le s pos
      generalize Utf8.decode s pos = U at *
      obtain ⟨r, wd⟩ := U
      simp only at u1 u2 u3 hnx
      have d48 : decide (48 ≤ r) = true := decide_eq_true (by omega)
      have d57 : decide (r ≤ 57) = false := decide_eq_false (by omega)
      have n46 : (((r : Nat) : Int) != 46) = true := by simp; omega
      go_wp2
      go_ret2
      exact ⟨rfl, iter_below _ _ _⟩
end Go.Proofs.Qxb6600776aDoor
