import Derived.Test.Qxb6600776aDoorRight
set_option linter.unusedSimpArgs false
set_option linter.unusedVariables false
namespace Go.Proofs.Qxb6600776aDoor
open Go.RowKit

theorem c73 (w : World) (N P k : Nat) (dp : Int) (hD : DecP w N P dp) (hk1 : 1 ≤ k) (hk2 : k ≤ 60) (hdp : -100000 ≤ dp ∧ dp ≤ 100000) :
    Calls Tryd.prog 73 #[.pointer (some ⟨N, 0, none⟩), .int .u64 k] w fun e w' => e = .returned (.tuple #[]) ∧ ∃ P' j : Nat, DecP w' N P' (dp - j) ∧ P' = P * 10 ^ j / 2 ^ k ∧ j ≤ 19 ∧ Below N w w' := by
  obtain ⟨D, nd, tr, hd, h1, h2, hdig, h0, rfl⟩ := hD
  refine (c73a w N D nd dp tr k (2 ^ k) hd h1 h2 hdp hk1 hk2 rfl hdig h0).mono ?_
  rintro e w1 ⟨rfl, D', nd', tr', r0, a1, a2, a3, a4, a5, a6, a7, a8, a9⟩
  exact ⟨rfl, _, r0 - 1, ⟨D', nd', tr', a1, a2, a3, a4, a5, rfl⟩, a8, by omega, a9⟩

theorem DecP.nd {w : World} {N P : Nat} {dp : Int} (h : DecP w N P dp) : ∃ nd : Nat, 1 ≤ nd ∧ w.cell? ⟨N, 800, none⟩ = some (.int .i64 nd) := by
  obtain ⟨D, nd, tr, h, h1, -⟩ := h
  exact ⟨nd, h1, h.nd⟩

set_option maxRecDepth 100000 in
theorem c67L (w : World) (N P k : Nat) (dp : Int) (hD : DecP w N P dp) (hC : Cheats N w) (hk1 : 1 ≤ k) (hk2 : k ≤ 60) (hdp : -100000 ≤ dp ∧ dp ≤ 100000) :
    Calls Tryd.prog 67 #[.pointer (some ⟨N, 0, none⟩), .int .i64 k] w fun e w' => e = .returned (.tuple #[]) ∧ ∃ P' dl : Nat, DecP w' N P' (dp + dl) ∧ P' = P * 2 ^ k / 10 ^ dl ∧ dl ≤ 60 ∧ Below N w w' := by
  obtain ⟨nd, hn1, hnd⟩ := hD.nd
  have hz : ((nd : Int) == 0) = false := beq_eq_false_iff_ne.2 (by omega)
  have hA : Hid (DecP w N P dp ∧ Cheats N w) := ⟨hD, hC⟩
  have hg : decide (0 < k) = true := decide_eq_true (by omega)
  have hg2 : decide (60 < k) = false := decide_eq_false (by omega)
  clear hD hC
  go_enter Tryd.func67, Tryd.ntmps67
  go_wp2_with fail
  go_loopg [1] 0 (fun g y wr => y = .int .i64 k ∧ w = wr)
  case atStart => exact ⟨rfl, rfl⟩
  case round =>
    obtain ⟨rfl, rfl⟩ := hrel
    go_wp2_with fail
    obtain ⟨a1, a2⟩ := unhide hA
    refine (c72 w N P k dp a1 a2 hk1 hk2 hdp).mono ?_
    rintro e w1 ⟨rfl, P', dl, b1, b2, b3, b4⟩
    go_wp2_with fail
    go_end0
    exact ⟨rfl, P', dl, b1, b2, b3, b4⟩

set_option maxRecDepth 100000 in
theorem c67R (w : World) (N P k : Nat) (dp : Int) (hD : DecP w N P dp) (hk1 : 1 ≤ k) (hk2 : k ≤ 60) (hdp : -100000 ≤ dp ∧ dp ≤ 100000) :
    Calls Tryd.prog 67 #[.pointer (some ⟨N, 0, none⟩), .int .i64 (-(k : Int))] w fun e w' => e = .returned (.tuple #[]) ∧ ∃ P' j : Nat, DecP w' N P' (dp - j) ∧ P' = P * 10 ^ j / 2 ^ k ∧ j ≤ 19 ∧ Below N w w' := by
  obtain ⟨nd, hn1, hnd⟩ := hD.nd
  have hz : ((nd : Int) == 0) = false := beq_eq_false_iff_ne.2 (by omega)
  have hA : Hid (DecP w N P dp) := hD
  obtain ⟨x, hx⟩ : ∃ x : Int, x = -(k : Int) := ⟨_, rfl⟩
  have hxk : -x = (k : Int) := by omega
  rw [← hx]
  have hg : ¬ (0 < x) := by omega
  have hg1 : x < 0 := by omega
  have hg2 : ¬ (x < -60) := by omega
  clear hD hx
  go_enter Tryd.func67, Tryd.ntmps67
  go_wp2_with fail
  go_loopg [1] 0 (fun g y wr => y = .int .i64 x ∧ w = wr)
  case atStart => exact ⟨rfl, rfl⟩
  case round =>
    obtain ⟨rfl, rfl⟩ := hrel
    go_wp2_with fail
    refine (c73 w N P k dp (unhide hA) hk1 hk2 hdp).mono ?_
    rintro e w1 ⟨rfl, P', j, b1, b2, b3, b4⟩
    go_wp2_with fail
    go_end0
    exact ⟨rfl, P', j, b1, b2, b3, b4⟩

set_option maxRecDepth 100000 in
set_option maxHeartbeats 1000000 in
theorem c67RR (w : World) (N P k : Nat) (dp : Int) (hD : DecP w N P dp) (hk1 : 1 ≤ k) (hk2 : k ≤ 3000) (hdp : -10000 ≤ dp ∧ dp ≤ 10000) :
    Calls Tryd.prog 67 #[.pointer (some ⟨N, 0, none⟩), .int .i64 (-(k : Int))] w fun e w' => e = .returned (.tuple #[]) ∧ ∃ (P' : Nat) (dp' : Int), DecP w' N P' dp' ∧ dp' ≤ dp ∧ dp - 60000 ≤ dp' ∧ Below N w w' := by
  obtain ⟨nd, hn1, hnd⟩ := hD.nd
  have hz : ((nd : Int) == 0) = false := beq_eq_false_iff_ne.2 (by omega)
  have hA : Hid (DecP w N P dp) := hD
  obtain ⟨x, hx⟩ : ∃ x : Int, x = -(k : Int) := ⟨_, rfl⟩
  rw [← hx]
  have hg : ¬ (0 < x) := by omega
  have hg1 : x < 0 := by omega
  have hxb : -3000 ≤ x := by omega
  clear hD
  have hxk : Hid (x = -(k : Int)) := hx
  clear hx
  go_enter Tryd.func67, Tryd.ntmps67
  go_wp2_with fail
  go_loopg [1] k (fun g y wr => ∃ yi : Int, y = .int .i64 yi ∧ -3000 ≤ yi ∧ yi < 0 ∧ Hid (∃ P' dp', yi = -(g : Int) ∧ g ≤ k ∧ DecP wr N P' dp' ∧ dp' ≤ dp ∧ dp - 20 * (k - g : Nat) ≤ dp' ∧ Below N w wr))
  case atStart => exact ⟨x, rfl, by omega, by omega, P, dp, unhide hxk, Nat.le_refl _, unhide hA, by omega, by omega, Below.refl _ _⟩
  case round =>
    obtain ⟨yi, rfl, hy1, hy2, hrel⟩ := hrel
    obtain ⟨P', dp', i1, i2, i3, i4, i5, i6⟩ := unhide hrel
    by_cases hb : yi < -60
    · clear hg hg1 hxb hnd hz i4 i1 i2 i3 i5 i6
      go_wp2_with fail
      obtain ⟨P', dp', i1, i2, i3, i4, i5, i6⟩ := unhide hrel
      refine (c73 wr N P' 60 dp' i3 (by omega) (by omega) (by omega)).mono ?_
      rintro e w1 ⟨rfl, P2, j, b1, b2, b3, b4⟩
      go_wp2_with fail
      go_roundg (gk - 60)
      case measure => omega
      case rel => exact ⟨_, rfl, by omega, by omega, P2, dp' - j, by omega, by omega, b1, by omega, by omega, Below.trans i6 b4⟩
    · obtain ⟨m, hm⟩ : ∃ m : Nat, -yi = (m : Int) := ⟨gk, by omega⟩
      have hm1 : 1 ≤ m := by omega
      have hm2 : m ≤ 60 := by omega
      clear hg hg1 hxb hnd hz i4 i1 i2 i3 i5 i6
      go_wp2_with fail
      obtain ⟨P', dp', i1, i2, i3, i4, i5, i6⟩ := unhide hrel
      refine (c73 wr N P' m dp' i3 (by omega) (by omega) (by omega)).mono ?_
      rintro e w1 ⟨rfl, P2, j, b1, b2, b3, b4⟩
      go_wp2_with fail
      go_end0
      exact ⟨rfl, P2, dp' - j, b1, by omega, by omega, Below.trans i6 b4⟩
end Go.Proofs.Qxb6600776aDoor
