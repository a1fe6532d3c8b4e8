import Derived.Test.Qxb6600776aDoorLeft2
set_option linter.unusedSimpArgs false
set_option linter.unusedVariables false
namespace Go.Proofs.Qxb6600776aDoor
open Go.RowKit

/-- A decimal in block N that is not zero: on 800 places it is P, its decimal point is dp. -/
def DecP (w : World) (N P : Nat) (dp : Int) : Prop := ∃ D nd tr, Dec w N D nd dp tr ∧ 1 ≤ nd ∧ nd ≤ 800 ∧ Dig D nd ∧ 49 ≤ D 0 ∧ pad D nd = P
theorem DecP.ge {w : World} {N P : Nat} {dp : Int} (h : DecP w N P dp) : 10 ^ 799 ≤ P := by
  obtain ⟨D, nd, tr, -, h1, h2, h3, h4, rfl⟩ := h
  exact pad_ge h2 h1 h4
theorem DecP.lt {w : World} {N P : Nat} {dp : Int} (h : DecP w N P dp) : P < 10 ^ 800 := by
  obtain ⟨D, nd, tr, -, h1, h2, h3, h4, rfl⟩ := h
  exact pad_lt h2 h3

theorem c72 (w : World) (N P k : Nat) (dp : Int) (hD : DecP w N P dp) (hC : Cheats N w) (hk1 : 1 ≤ k) (hk2 : k ≤ 60) (hdp : -100000 ≤ dp ∧ dp ≤ 100000) :
    Calls Tryd.prog 72 #[.pointer (some ⟨N, 0, none⟩), .int .u64 k] w fun e w' => e = .returned (.tuple #[]) ∧ ∃ P' dl : Nat, DecP w' N P' (dp + dl) ∧ P' = P * 2 ^ k / 10 ^ dl ∧ dl ≤ 60 ∧ Below N w w' := by
  obtain ⟨D, nd, tr, hd, h1, h2, hdig, h0, rfl⟩ := hD
  obtain ⟨g, o, c, hN, hg, hv, ht⟩ := hC
  obtain ⟨f1, f2, f3, f4, f5, f6, f7, f8⟩ := cheat_fact k hk1 hk2
  have hb := ls_bounds (D := D) (S := cS k) (nd := nd) (L := (cs k).length) (k := k) h1 hdig h0 f3 f5 f2 f6 f7
  obtain ⟨lt, hlt⟩ : ∃ lt, lt = decide (numP D nd (cs k).length < num (cS k) (cs k).length) := ⟨_, rfl⟩
  obtain ⟨dl, hdl⟩ : ∃ dl, dl = if lt then cd k - 1 else cd k := ⟨_, rfl⟩
  have h79 : ∀ n, Calls Tryd.prog 79 #[.slice (some ⟨N, 0, none⟩) nd 800, .string ⟨(cs k).toArray⟩] (w.drewN n) fun e w' => e = .returned (.bool lt) ∧ ∃ m, w' = (w.drewN n).drewN m := by
    intro n
    rw [hlt]
    exact c79 (w.drewN n) N 800 D nd ⟨(cs k).toArray⟩ (cS k) (fun j hj => hd.d j (by omega)) h2 (show (cs k).length ≤ 100 from f4) (fun i h => cs_byte (cs k) i h) hdig f6 (fun _ => f8)
  have hT : 10 ^ (nd + dl - 1) ≤ num D nd * 2 ^ k ∧ num D nd * 2 ^ k < 10 ^ (nd + dl) := by
    by_cases hl : numP D nd (cs k).length < num (cS k) (cs k).length
    · have e : dl = k - (cs k).length := by rw [hdl, hlt, decide_eq_true hl, f1]; simp
      rw [e]; exact hb.1 hl
    · have e : dl = k - (cs k).length + 1 := by rw [hdl, hlt, decide_eq_false hl, f1]; simp
      rw [e]; exact hb.2 hl
  have hd1 : cd k ≤ 60 := by omega
  refine (c72a w N D nd dp tr k (cd k) dl g o c ⟨(cs k).toArray⟩ (cS k) lt hd h1 h2 hdp hk1 hk2 hdig h0 hv (ht k (by omega)).1 (ht k (by omega)).2 (by omega) hd1 h79 hdl hT.1 hT.2).mono ?_
  rintro e w1 ⟨rfl, D', nd', tr', a1, a2, a3, a4, a5, a6, a7⟩
  exact ⟨rfl, _, dl, ⟨D', nd', tr', a1, a2, a3, a4, a5, rfl⟩, a6, by rw [hdl]; split <;> omega, a7⟩
end Go.Proofs.Qxb6600776aDoor
