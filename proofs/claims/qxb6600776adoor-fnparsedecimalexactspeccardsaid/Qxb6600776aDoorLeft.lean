import Derived.Test.Qxb6600776aDoorPrefix
import GoSem.PinnedTables
set_option linter.unusedSimpArgs false
set_option linter.unusedVariables false
namespace Go.Proofs.Qxb6600776aDoor
open Go.RowKit

def cd (k : Nat) : Nat := (Pinned.cheatRows.getD k (0, [])).1
def cs (k : Nat) : List UInt8 := (Pinned.cheatRows.getD k (0, [])).2
def cS (k i : Nat) : Nat := ((cs k).getD i 0).toNat
/-- The variable leftcheats as its text lays it, below block N. -/
def Cheats (N : Nat) (w : World) : Prop := ∃ g o c, 10 < N ∧ g < N ∧ w.cell? ⟨10, 0, none⟩ = some (.slice (some ⟨g, o, none⟩) 61 c) ∧
  ∀ k, k < 61 → w.cell? ⟨g, o + k * 2, none⟩ = some (.int .i64 (cd k)) ∧ w.cell? ⟨g, o + k * 2 + 1, none⟩ = some (.string ⟨(cs k).toArray⟩)
theorem Cheats.below {N : Nat} {w w' : World} (h : Cheats N w) (hb : Below N w w') : Cheats N w' := by
  obtain ⟨g, o, c, h1, h2, h3, h4⟩ := h
  exact ⟨g, o, c, h1, h2, by rw [hb.cell (by exact h1)]; exact h3, fun k hk => ⟨by rw [hb.cell (by exact h2)]; exact (h4 k hk).1, by rw [hb.cell (by exact h2)]; exact (h4 k hk).2⟩⟩
def cheatOk (k : Nat) : Bool := decide (cd k = k - (cs k).length + 1) && decide (1 ≤ (cs k).length) && decide ((cs k).length ≤ k) && decide ((cs k).length ≤ 100) && decide (num (cS k) (cs k).length = 5 ^ k) &&
  decide (∀ i : Fin (cs k).length, 48 ≤ cS k i.val ∧ cS k i.val ≤ 57) && decide (49 ≤ cS k 0) && decide (49 ≤ cS k ((cs k).length - 1))
theorem cheat_all : ∀ k : Fin 60, cheatOk (k.val + 1) = true := by decide +kernel
theorem cheat_fact (k : Nat) (h1 : 1 ≤ k) (h2 : k ≤ 60) : cd k = k - (cs k).length + 1 ∧ 1 ≤ (cs k).length ∧ (cs k).length ≤ k ∧ (cs k).length ≤ 100 ∧ num (cS k) (cs k).length = 5 ^ k ∧
    Dig (cS k) (cs k).length ∧ 49 ≤ cS k 0 ∧ 49 ≤ cS k ((cs k).length - 1) := by
  have := cheat_all ⟨k - 1, by omega⟩
  have e : k - 1 + 1 = k := by omega
  simp only [e] at this
  simp only [cheatOk, Bool.and_eq_true, decide_eq_true_eq] at this
  obtain ⟨⟨⟨⟨⟨⟨⟨a, b⟩, c⟩, d⟩, f⟩, g⟩, i⟩, j⟩ := this
  exact ⟨a, b, c, d, f, fun n hn => g ⟨n, hn⟩, i, j⟩
theorem cs_byte (l : List UInt8) (i : Nat) (h : i < (ByteArray.mk l.toArray).size) : (ByteArray.mk l.toArray)[i].toNat = (l.getD i 0).toNat := by
  have h' : i < l.length := h
  simp only [List.getD, List.getElem?_eq_getElem h', Option.getD_some]
  rfl
theorem slice_d (N nd : Nat) (h : nd ≤ 800) (w : World) : (Instr.sliceAt 73 (.pointer (some ⟨N, 0, none⟩)) (some (.int .i64 0)) (some (.int .i64 nd)) none).run Tryd.prog w = .ok (.slice (some ⟨N, 0, none⟩) nd 800) w := by
  have e : Tryd.prog.underlying 73 = some (.array (Tryd.prog.arrayLen 73) (Tryd.prog.elem 73)) := by kernel_rfl
  have e1 : Tryd.prog.arrayLen 73 = 800 := by kernel_rfl
  have e2 : Tryd.prog.elem 73 = 5 := by kernel_rfl
  rw [run_sliceAt_array_lh w 73 _ e .i64 .i64 0 nd (by omega) (by omega) (by rw [e1]; omega), e1, e2]
  simp [slicedAt, Tryd.sizeOf5, go_sem]
end Go.Proofs.Qxb6600776aDoor
