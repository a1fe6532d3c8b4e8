import Derived.Test.Qxb6600776aDoorDec
set_option linter.unusedSimpArgs false
set_option linter.unusedVariables false
namespace Go.Proofs.Qxb6600776aDoor
open Go.RowKit

theorem pad_trim {D : Nat → Nat} {n nd : Nat} (h : n ≤ nd) (h8 : nd ≤ 800) (hz : ∀ j, n ≤ j → j < nd → D j = 48) : pad D n = pad D nd := by
  have := num_zeros (D := D) n (nd - n) (fun k a b => hz k a (by omega))
  rw [Nat.add_sub_cancel' h] at this
  have e : 800 - n = (nd - n) + (800 - nd) := by omega
  rw [pad, pad, this, e, Nat.pow_add, Nat.mul_assoc]

set_option maxRecDepth 100000 in
set_option maxHeartbeats 1000000 in
theorem c80 (w : World) (N : Nat) (D : Nat → Nat) (nd : Nat) (dp : Int) (tr : Bool) (hD : Dec w N D nd dp tr) (h1 : 1 ≤ nd) (h2 : nd ≤ 800) (h0 : 49 ≤ D 0) :
    Calls Tryd.prog 80 #[.pointer (some ⟨N, 0, none⟩)] w fun e w' => e = .returned (.tuple #[]) ∧ ∃ nd', Dec w' N D nd' dp tr ∧ 1 ≤ nd' ∧ nd' ≤ nd ∧ pad D nd' = pad D nd ∧ Below N w w' := by
  go_enter Tryd.func80, Tryd.ntmps80
  go_wp2
  go_loopg [] nd (fun k wr => Dec wr N D k dp tr ∧ 1 ≤ k ∧ k ≤ nd ∧ (∀ j, k ≤ j → j < nd → D j = 48) ∧ Below N w wr)
  case atStart => exact ⟨hD, h1, Nat.le_refl _, fun j a b => absurd b (by omega), Below.refl _ _⟩
  case round =>
    obtain ⟨hd, ha, hb, hz, hw⟩ := hrel
    have hnd := hd.nd
    have hg : decide (0 < gk) = true := decide_eq_true (by omega)
    have he : ((gk : Int) - 1) = ((gk - 1 : Nat) : Int) := by omega
    have hc := hd.d (gk - 1) (by omega)
    have hlt : gk - 1 < 800 := by omega
    have hf := hd.free 800
    have hA : Hid (Dec wr N D gk dp tr ∧ 1 ≤ gk ∧ gk ≤ nd ∧ (∀ j, gk ≤ j → j < nd → D j = 48) ∧ Below N w wr) := ⟨hd, ha, hb, hz, hw⟩
    clear hd hz hw hD
    by_cases hq : D (gk - 1) = 48
    · have hq' : (((D (gk - 1) : Nat) : Int) == 48) = true := beq_iff_eq.2 (by omega)
      go_wp2
      go_quiet (fail)
      go_wp2
      go_roundg (gk - 1)
      case measure => omega
      case rel =>
        obtain ⟨hd, ha, hb, hz, hw⟩ := unhide hA
        have hne : gk - 1 ≠ 0 := fun e => by rw [e] at hq; omega
        refine ⟨?_, by omega, by omega, fun j a b => ?_, ?_⟩
        · rw [← he]; exact (he ▸ (hd.drewN nq).set_nd (gk - 1))
        · by_cases ej : j = gk - 1
          · rw [ej]; exact hq
          · exact hz j (by omega) b
        · exact Below.setCell (below_drewN hw nq) (Nat.le_refl N) _
    · have hq' : (((D (gk - 1) : Nat) : Int) == 48) = false := beq_eq_false_iff_ne.2 (by omega)
      have hg0 : ((gk : Int) == 0) = false := beq_eq_false_iff_ne.2 (by omega)
      go_wp2
      go_quiet (fail)
      go_wp2
      go_end0
      obtain ⟨hd, ha, hb, hz, hw⟩ := unhide hA
      exact ⟨rfl, gk, hd.drewN nq, by omega, hb, pad_trim hb h2 hz, below_drewN hw nq⟩
end Go.Proofs.Qxb6600776aDoor
