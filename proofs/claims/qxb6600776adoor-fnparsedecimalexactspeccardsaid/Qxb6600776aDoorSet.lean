import Derived.Test.Qxb6600776aDoorRead
import Derived.Test.Qxb6600776aDoorLeft3
set_option linter.unusedSimpArgs false
set_option linter.unusedVariables false
namespace Go.Proofs.Qxb6600776aDoor
open Go.RowKit

theorem Dec.set_neg {w : World} {N : Nat} {D : Nat → Nat} {nd : Nat} {dp : Int} {tr : Bool} (h : Dec w N D nd dp tr) :
    Dec (w.setCell ⟨N, 802, none⟩ (.bool false)) N D nd dp tr where
  d := fun k hk => by rw [cell_other _ _ _ _ _ (by omega)]; exact h.d k hk
  nd := by rw [cell_other _ _ _ _ _ (by omega)]; exact h.nd
  dp := by rw [cell_other _ _ _ _ _ (by omega)]; exact h.dp
  neg := cell_same w N 802 _ _ h.neg
  tr := by rw [cell_other _ _ _ _ _ (by omega)]; exact h.tr
  free := fun k => by rw [froz_set]; exact h.free k

/-- What 'set' has laid behind the reader's state R. -/
structure SetI (w wr : World) (N : Nat) (D : Nat → Nat) (tr : Bool) (R : RS) : Prop where
  dec : Dec wr N D (min R.nd 800) (min R.dp 800) tr
  dig : Dig D (min R.nd 800)
  lead : 0 < R.nd → 49 ≤ D 0
  m : R.m = num D R.nm
  nm : R.nm = min R.nd 19
  z : R.nd = 0 → R.dp ≤ 0
  bel : Below N w wr
theorem SetI.drewN {w wr : World} {N : Nat} {D : Nat → Nat} {tr : Bool} {R : RS} (h : SetI w wr N D tr R) (n : Nat) : SetI w (wr.drewN n) N D tr R :=
  ⟨h.dec.drewN n, h.dig, h.lead, h.m, h.nm, h.z, below_drewN h.bel n⟩
theorem SetI.dot {w wr : World} {N : Nat} {D : Nat → Nat} {tr : Bool} {R : RS} {c : UInt8} (h : SetI w wr N D tr R) (hc : c.toNat = 46) :
    SetI w (wr.setCell ⟨N, 801, none⟩ (.int .i64 ((min R.nd 800 : Nat) : Int))) N D tr (rstep R c) := by
  have e : rstep R c = ⟨R.m, R.nd, R.nm, R.nd, true, R.dig, R.tr⟩ := by unfold rstep; rw [if_pos hc]
  rw [e]
  refine ⟨?_, h.dig, h.lead, h.m, h.nm, fun h0 => by simp only at h0 ⊢; omega, h.bel.setCell (Nat.le_refl N) _⟩
  have e2 : min ((R.nd : Nat) : Int) 800 = ((min R.nd 800 : Nat) : Int) := by omega
  simp only [e2]
  exact h.dec.set_dp _
theorem SetI.zero {w wr : World} {N : Nat} {D : Nat → Nat} {tr : Bool} {R : RS} {c : UInt8} (h : SetI w wr N D tr R) (hc : c.toNat = 48) (hn : R.nd = 0) :
    SetI w (wr.setCell ⟨N, 801, none⟩ (.int .i64 (R.dp - 1))) N D tr (rstep R c) := by
  have e : rstep R c = ⟨R.m, R.nd, R.nm, R.dp - 1, R.dot, true, R.tr⟩ := by unfold rstep; rw [if_neg (by omega), if_pos ⟨hc, hn⟩]
  have hz := h.z hn
  rw [e]
  refine ⟨?_, h.dig, h.lead, h.m, h.nm, fun _ => by simp only; omega, h.bel.setCell (Nat.le_refl N) _⟩
  have e2 : min (R.dp - 1) 800 = R.dp - 1 := by omega
  simp only [e2]
  exact h.dec.set_dp _
theorem rstep_digit {R : RS} {c : UInt8} (hc : 48 ≤ c.toNat ∧ c.toNat ≤ 57) (hz : ¬ (c.toNat = 48 ∧ R.nd = 0)) :
    ∃ tr', rstep R c = ⟨if R.nm < 19 then R.m * 10 + (c.toNat - 48) else R.m, R.nd + 1, if R.nm < 19 then R.nm + 1 else R.nm, R.dp, R.dot, true, tr'⟩ := by
  unfold rstep
  rw [if_neg (by omega), if_neg hz]
  split
  · exact ⟨_, rfl⟩
  · split <;> exact ⟨_, rfl⟩
theorem SetI.digit {w wr : World} {N : Nat} {D : Nat → Nat} {tr : Bool} {R : RS} {c : UInt8} (h : SetI w wr N D tr R) (hc : 48 ≤ c.toNat ∧ c.toNat ≤ 57) (hz : ¬ (c.toNat = 48 ∧ R.nd = 0)) (hn : R.nd < 800) :
    SetI w ((wr.setCell ⟨N, R.nd, none⟩ (.int .u8 c.toNat)).setCell ⟨N, 800, none⟩ (.int .i64 ((R.nd + 1 : Nat) : Int))) N (fun k => if k = R.nd then c.toNat else D k) tr (rstep R c) := by
  obtain ⟨tr', e⟩ := rstep_digit hc hz
  rw [e]
  have e1 : min R.nd 800 = R.nd := by omega
  have e2 : min (R.nd + 1) 800 = R.nd + 1 := by omega
  have hnm := h.nm
  refine ⟨?_, ?_, fun _ => ?_, ?_, ?_, fun h0 => absurd h0 (by simp), (h.bel.setCell (Nat.le_refl N) _).setCell (Nat.le_refl N) _⟩
  · simp only [e2]
    exact (h.dec.set_d R.nd c.toNat hn).set_nd (R.nd + 1)
  · intro k hk
    simp only [e2] at hk
    by_cases ek : k = R.nd
    · simp only [ek, if_true]; exact hc
    · simp only [ek, if_false]; exact h.dig k (by omega)
  · by_cases h0 : (0:Nat) = R.nd
    · simp only [h0, if_true]; omega
    · simp only [h0, if_false]; exact h.lead (by omega)
  · have e3 : num (fun k => if k = R.nd then c.toNat else D k) R.nm = num D R.nm := num_congr _ (fun k hk => by simp; omega)
    by_cases h9 : R.nm < 19
    · simp only [h9, if_true]
      have e4 : R.nm = R.nd := by omega
      simp only [num, e4, if_true]
      rw [e4] at e3
      rw [e3, h.m, e4]
    · simp only [h9, if_false]; rw [e3]; exact h.m
  · simp only
    by_cases h9 : R.nm < 19
    · simp only [h9, if_true]; omega
    · simp only [h9, if_false]; omega
theorem SetI.more {w wr : World} {N : Nat} {D : Nat → Nat} {tr : Bool} {R : RS} {c : UInt8} (h : SetI w wr N D tr R) (hc : 48 ≤ c.toNat ∧ c.toNat ≤ 57) (hn : 800 ≤ R.nd) :
    SetI w wr N D tr (rstep R c) := by
  obtain ⟨tr', e⟩ := rstep_digit (R := R) hc (by omega)
  rw [e]
  have e1 : min R.nd 800 = 800 := by omega
  have e2 : min (R.nd + 1) 800 = 800 := by omega
  have hnm := h.nm
  have h9 : ¬ R.nm < 19 := by omega
  have hd := h.dec
  have hg := h.dig
  rw [e1] at hd hg
  refine ⟨by simp only [e2]; exact hd, by simp only [e2]; exact hg, fun _ => h.lead (by omega), by simp only [h9, if_false]; exact h.m, by simp only [h9, if_false]; omega, fun h0 => absurd h0 (by simp), h.bel⟩
theorem SetI.flag {w wr : World} {N : Nat} {D : Nat → Nat} {tr : Bool} {R : RS} (h : SetI w wr N D tr R) : SetI w (wr.setCell ⟨N, 803, none⟩ (.bool true)) N D true R :=
  ⟨h.dec.set_tr true, h.dig, h.lead, h.m, h.nm, h.z, h.bel.setCell (Nat.le_refl N) _⟩
/-- Where the number's decimal point lies. -/
def rdp (R : RS) : Int := if R.dot then R.dp else R.nd
end Go.Proofs.Qxb6600776aDoor
