import Derived.Test.Qxb6600776aDoorBase
import Derived.Test.Qxb6600776aDoorShifts
set_option linter.unusedSimpArgs false
set_option linter.unusedVariables false
namespace Go.Proofs.Qxb6600776aDoor
open Go.RowKit

/-- A decimal in block N: its digits' bytes, how many, the decimal point, 'trunc'; no sign. -/
structure Dec (w : World) (N : Nat) (D : Nat → Nat) (nd : Nat) (dp : Int) (tr : Bool) : Prop where
  d : ∀ k, k < 800 → w.cell? ⟨N, k, none⟩ = some (.int .u8 (D k))
  nd : w.cell? ⟨N, 800, none⟩ = some (.int .i64 nd)
  dp : w.cell? ⟨N, 801, none⟩ = some (.int .i64 dp)
  neg : w.cell? ⟨N, 802, none⟩ = some (.bool false)
  tr : w.cell? ⟨N, 803, none⟩ = some (.bool tr)
  free : ∀ k, w.frozen? ⟨N, k, none⟩ = false

theorem cell_other (w : World) (N i j : Nat) (v : Value) (h : i ≠ j) : (w.setCell ⟨N, i, none⟩ v).cell? ⟨N, j, none⟩ = w.cell? ⟨N, j, none⟩ := by
  simp only [World.cell?, World.setCell, Array.getElem?_modify]
  cases hb : w.heap[N]? with
  | none => simp
  | some o => cases o <;> simp [Array.getElem?_setIfInBounds, h]
theorem cell_same (w : World) (N i : Nat) (v u : Value) (h : w.cell? ⟨N, i, none⟩ = some u) : (w.setCell ⟨N, i, none⟩ v).cell? ⟨N, i, none⟩ = some v :=
  World.cell?_setCell_same' w ⟨N, i, none⟩ v (by rw [h]; rfl)
theorem froz_set (w : World) (N i j : Nat) (v : Value) : (w.setCell ⟨N, i, none⟩ v).frozen? ⟨N, j, none⟩ = w.frozen? ⟨N, j, none⟩ := by
  simp only [World.frozen?, World.setCell, Array.getElem?_modify]
  cases hb : w.heap[N]? with
  | none => simp
  | some o => cases o <;> simp
theorem Dec.set_d {w : World} {N : Nat} {D : Nat → Nat} {nd : Nat} {dp : Int} {tr : Bool} (h : Dec w N D nd dp tr) (i x : Nat) (hi : i < 800) :
    Dec (w.setCell ⟨N, i, none⟩ (.int .u8 x)) N (fun k => if k = i then x else D k) nd dp tr where
  d := fun k hk => by
    by_cases e : k = i
    · subst e; simp only [if_true]; exact cell_same w N k _ _ (h.d k hk)
    · simp only [e, if_false]; rw [cell_other _ _ _ _ _ (Ne.symm e)]; exact h.d k hk
  nd := by rw [cell_other _ _ _ _ _ (by omega)]; exact h.nd
  dp := by rw [cell_other _ _ _ _ _ (by omega)]; exact h.dp
  neg := by rw [cell_other _ _ _ _ _ (by omega)]; exact h.neg
  tr := by rw [cell_other _ _ _ _ _ (by omega)]; exact h.tr
  free := fun k => by rw [froz_set]; exact h.free k
theorem Dec.set_nd {w : World} {N : Nat} {D : Nat → Nat} {nd : Nat} {dp : Int} {tr : Bool} (h : Dec w N D nd dp tr) (x : Nat) :
    Dec (w.setCell ⟨N, 800, none⟩ (.int .i64 x)) N D x dp tr where
  d := fun k hk => by rw [cell_other _ _ _ _ _ (by omega)]; exact h.d k hk
  nd := cell_same w N 800 _ _ h.nd
  dp := by rw [cell_other _ _ _ _ _ (by omega)]; exact h.dp
  neg := by rw [cell_other _ _ _ _ _ (by omega)]; exact h.neg
  tr := by rw [cell_other _ _ _ _ _ (by omega)]; exact h.tr
  free := fun k => by rw [froz_set]; exact h.free k
theorem Dec.set_dp {w : World} {N : Nat} {D : Nat → Nat} {nd : Nat} {dp : Int} {tr : Bool} (h : Dec w N D nd dp tr) (x : Int) :
    Dec (w.setCell ⟨N, 801, none⟩ (.int .i64 x)) N D nd x tr where
  d := fun k hk => by rw [cell_other _ _ _ _ _ (by omega)]; exact h.d k hk
  nd := by rw [cell_other _ _ _ _ _ (by omega)]; exact h.nd
  dp := cell_same w N 801 _ _ h.dp
  neg := by rw [cell_other _ _ _ _ _ (by omega)]; exact h.neg
  tr := by rw [cell_other _ _ _ _ _ (by omega)]; exact h.tr
  free := fun k => by rw [froz_set]; exact h.free k
theorem Dec.set_tr {w : World} {N : Nat} {D : Nat → Nat} {nd : Nat} {dp : Int} {tr : Bool} (h : Dec w N D nd dp tr) (x : Bool) :
    Dec (w.setCell ⟨N, 803, none⟩ (.bool x)) N D nd dp x where
  d := fun k hk => by rw [cell_other _ _ _ _ _ (by omega)]; exact h.d k hk
  nd := by rw [cell_other _ _ _ _ _ (by omega)]; exact h.nd
  dp := by rw [cell_other _ _ _ _ _ (by omega)]; exact h.dp
  neg := by rw [cell_other _ _ _ _ _ (by omega)]; exact h.neg
  tr := cell_same w N 803 _ _ h.tr
  free := fun k => by rw [froz_set]; exact h.free k
theorem Dec.drewN {w : World} {N : Nat} {D : Nat → Nat} {nd : Nat} {dp : Int} {tr : Bool} (h : Dec w N D nd dp tr) (n : Nat) : Dec (w.drewN n) N D nd dp tr := ⟨h.d, h.nd, h.dp, h.neg, h.tr, h.free⟩
end Go.Proofs.Qxb6600776aDoor
