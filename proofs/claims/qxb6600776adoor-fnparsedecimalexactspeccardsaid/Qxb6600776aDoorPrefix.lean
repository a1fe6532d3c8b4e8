import Derived.Test.Qxb6600776aDoorTrim
set_option linter.unusedSimpArgs false
set_option linter.unusedVariables false
namespace Go.Proofs.Qxb6600776aDoor
open Go.RowKit

set_option maxRecDepth 100000 in
set_option maxHeartbeats 1000000 in
theorem c79 (w : World) (N cap : Nat) (D : Nat → Nat) (nd : Nat) (s : ByteArray) (S : Nat → Nat) (hc : ∀ k, k < nd → w.cell? ⟨N, k, none⟩ = some (.int .u8 (D k)))
    (hnd : nd ≤ 800) (hL : s.size ≤ 100) (hS : ∀ i (h : i < s.size), s[i].toNat = S i) (hdD : Dig D nd) (hdS : Dig S s.size) (hl : 0 < s.size → 49 ≤ S (s.size - 1)) :
    Calls Tryd.prog 79 #[.slice (some ⟨N, 0, none⟩) nd cap, .string s] w fun e w' => e = .returned (.bool (decide (numP D nd s.size < num S s.size))) ∧ ∃ n, w' = w.drewN n := by
  obtain ⟨D', e1, e2, e3, e4⟩ := numP_dig hdD s.size
  rw [e4]
  have hA : Hid (Dig D nd ∧ Dig S s.size ∧ (0 < s.size → 49 ≤ S (s.size - 1)) ∧ Dig D' s.size ∧ (∀ j, j < nd → D' j = D j) ∧ (∀ j, nd ≤ j → D' j = 48)) := ⟨hdD, hdS, hl, e1, e2, e3⟩
  have hC : Hid (∀ k, k < nd → w.cell? ⟨N, k, none⟩ = some (.int .u8 (D k))) := hc
  have hSS : Hid (∀ i (h : i < s.size), s[i].toNat = S i) := hS
  clear hdD hdS hl e1 e2 e3 e4 hc hS
  go_enter Tryd.func79, Tryd.ntmps79
  go_wp2
  go_loopg [5] s.size (fun k i wr => ∃ m : Nat, i = .int .i64 m ∧ m ≤ s.size ∧ m ≤ nd ∧ k = s.size - m ∧ Hid (∀ j, j < m → D j = S j) ∧ ∃ q, wr = w.drewN q)
  case atStart => exact ⟨0, rfl, by omega, by omega, by omega, fun j hj => absurd hj (by omega), 0, rfl⟩
  case round =>
    obtain ⟨m, rfl, h1, h2, rfl, h4, q, rfl⟩ := hrel
    by_cases hm : m < s.size
    · have hmd : decide (m < s.size) = true := decide_eq_true hm
      by_cases hn : nd ≤ m
      · have hnd : decide (nd ≤ m) = true := decide_eq_true hn
        go_wp2
        go_ret
        refine ⟨ret_bool ?_, q, rfl⟩
        obtain ⟨dD, dS, hl, d1, d2, d3⟩ := unhide hA
        have h4' := unhide h4
        have hmn : m = nd := by omega
        symm; apply decide_eq_true
        have hle : ∀ j, m ≤ j → j < s.size → D' j ≤ S j := fun j a b => by rw [d3 j (by omega)]; exact (dS j b).1
        -- all zeros behind: the last digit of S is greater
        have hk : ∀ j, j ≤ s.size → num D' j ≤ num S j := by
          intro j
          induction j with
          | zero => intro _; exact Nat.le_refl _
          | succ j ih =>
            intro hj
            have := ih (by omega)
            simp only [num]
            have hj' : D' j ≤ S j := by
              by_cases hjm : j < m
              · rw [d2 j (by omega), h4' j hjm]; exact Nat.le_refl _
              · exact hle j (by omega) (by omega)
            omega
        have hlast := hl (by omega)
        have e : s.size = (s.size - 1) + 1 := by omega
        have hz := d3 (s.size - 1) (by omega)
        have := hk (s.size - 1) (by omega)
        rw [e]; simp only [num, hz]; omega
      · have hn' : m < nd := by omega
        have hnd : decide (nd ≤ m) = false := decide_eq_false hn
        have hcm := unhide hC m (by omega)
        have hsm := unhide hSS m hm
        by_cases he : D m = S m
        · have hb : (((D m : Nat) : Int) != ((S m : Nat) : Int)) = false := by simp [he]
          go_wp2
          go_quiet (fail)
          go_wp2
          go_roundg (s.size - (m + 1))
          case measure => omega
          case rel =>
            refine ⟨m + 1, rfl, by omega, by omega, rfl, fun j hj => ?_, q + nq, rfl⟩
            by_cases ej : j = m
            · rw [ej]; exact he
            · exact unhide h4 j (by omega)
        · have hb : (((D m : Nat) : Int) != ((S m : Nat) : Int)) = true := by simp; omega
          go_wp2
          go_quiet (fail)
          go_wp2
          go_quiet (fail)
          go_wp2
          go_ret
          refine ⟨ret_bool ?_, by rw [World.drewN_drewN, World.drewN_drewN]; exact ⟨_, rfl⟩⟩
          obtain ⟨dD, dS, hl, d1, d2, d3⟩ := unhide hA
          have hpre : ∀ j, j < m → D' j = S j := fun j hj => by rw [d2 j (by omega)]; exact unhide h4 j hj
          have hdm := d2 m hn'
          by_cases hlt : D m < S m
          · rw [decide_eq_true hlt]; symm
            exact decide_eq_true (less_of d1 dS hm hpre (by omega))
          · rw [decide_eq_false hlt]; symm
            have := less_of dS d1 hm (fun j hj => (hpre j hj).symm) (by omega)
            exact decide_eq_false (by omega)
    · have hmd : decide (m < s.size) = false := decide_eq_false hm
      go_wp2
      go_ret
      refine ⟨ret_bool ?_, q, rfl⟩
      obtain ⟨dD, dS, hl, d1, d2, d3⟩ := unhide hA
      have hms : m = s.size := by omega
      have : num D' s.size = num S s.size := num_congr _ (fun j hj => by rw [d2 j (by omega)]; exact unhide h4 j (by omega))
      symm; exact decide_eq_false (by omega)
end Go.Proofs.Qxb6600776aDoor
