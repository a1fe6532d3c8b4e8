import Derived.Test.Qxb6000100aDoorScan
set_option linter.unusedSimpArgs false
set_option linter.unusedVariables false
namespace Go.Proofs.Qxb6000100aDoor
open Go.RowKit Go.Proofs.Qxb6000100aDoor.Pl

theorem run_le (B : Nat → Int) (i : Nat) : ∀ j, bsRun B i j ≤ j
  | 0 => Nat.le_refl _
  | j + 1 => by
    have := run_le B i j
    simp only [bsRun]; split <;> omega

set_option maxHeartbeats 1000000 in
theorem quoted13 (g n : Nat) (B : Nat → Int) (i : Nat) (w : World) (hn : n ≤ 1048576) (hc : Lies w g n B) (hi : i < n) :
    Calls Tryd.prog 13 #[.slice (some ⟨g, 0, none⟩) n n, .int .i64 i] w fun r w' => r = .returned (.int .i64 (endOf (quotedM B n i n (i + 1)))) ∧ w' = w := by
  have HC := hide hc
  clear hc
  generalize hR : quotedM B n i n (i + 1) = R
  have HR := hide hR
  clear hR
  go_enter Tryd.func13, Tryd.ntmps13
  go_wp2
  go_loop [5] (fun j => ∃ k f : Nat, j = .int .i64 k ∧ i < k ∧ k ≤ n ∧ n ≤ k + f ∧ Hid (quotedM B n i f k = R)) (fun j => n - (intOf j).toNat)
  case atStart => exact ⟨i + 1, n, by go_num, by omega, by omega, by omega, unhide HR⟩
  case round =>
    clear HR
    obtain ⟨k, f, rfl, hik, hkn, hf, HR⟩ := hrel
    by_cases hlt : k < n
    · have hcx := unhide HC k hlt
      obtain ⟨f, rfl⟩ : ∃ f', f = f' + 1 := ⟨f - 1, by omega⟩
      have HE := unhide HR
      unfold quotedM at HE
      rw [if_neg (by omega)] at HE
      clear HR
      by_cases h34 : B k = 34
      · have hb2 : (B k != 34) = false := by simpa using h34
        have HE' : Hid ((if bsRun B i k % 2 = 0 then some (k + 1) else quotedM B n i f (k + 1)) = R) := by
          unfold Hid; rw [← HE]; simp [h34]
        clear HE h34
        have hrl := run_le B i k
        go_wp2
        go_loop [6, 7] (fun c q => ∃ p t : Nat, q = .int .i64 p ∧ c = .int .i64 t ∧ i ≤ p ∧ p < k ∧ t + bsRun B i (p + 1) = bsRun B i k) (fun _ q => (intOf q).toNat)
        case atStart =>
          refine ⟨k - 1, 0, by go_num, rfl, by omega, by omega, ?_⟩
          rw [show k - 1 + 1 = k by omega]; omega
        case round =>
          obtain ⟨p, t, rfl, rfl, hip, hpk, hrun⟩ := hrel
          have hrun' := hide hrun
          have htk : t ≤ k := by omega
          clear hrun
          have hcp := unhide HC p (by omega)
          by_cases hgt : i < p
          · by_cases h92 : B p = 92
            · have hb : (B p == 92) = true := by simpa using h92
              have hs : Hid (bsRun B i (p + 1) = bsRun B i p + 1) := by
                unfold Hid; simp only [bsRun]; rw [if_pos ⟨hgt, h92⟩]
              clear h92
              go_wp2
              go_round
              case rel =>
                refine ⟨p - 1, t + 1, by go_num, by go_num, by omega, by omega, ?_⟩
                have := unhide hrun'
                rw [unhide hs] at this
                rw [show p - 1 + 1 = p by omega]; omega
              case measure => simp [intOf]; omega
            · have hb : (B p == 92) = false := by simpa using h92
              have hs : bsRun B i (p + 1) = 0 := by
                simp only [bsRun]; rw [if_neg (by omega)]
              have hrt : bsRun B i k = t := by have := unhide hrun'; omega
              rw [hrt] at HE'
              clear h92 hs hrt hrl hrun'
              by_cases hev : t % 2 = 0
              · rw [if_pos hev] at HE'
                have hE : Hid (R = some (k + 1)) := (unhide HE').symm
                have hev' : ((t : Int) % 2 == 0) = true := by simp; omega
                clear HE'
                go_wp2
                go_ret
                exact ⟨ret_int (by rw [unhide hE]; simp [endOf]), rfl⟩
              · rw [if_neg hev] at HE'
                have hev' : ((t : Int) % 2 == 0) = false := by simp; omega
                go_wp2
                go_round
                case rel => exact ⟨k + 1, f, by go_num, by omega, by omega, by omega, unhide HE'⟩
                case measure => simp [intOf]; omega
          · obtain rfl : p = i := by omega
            have hs : bsRun B p (p + 1) = 0 := by
              simp only [bsRun]; rw [if_neg (by omega)]
            have hrt : bsRun B p k = t := by have := unhide hrun'; omega
            rw [hrt] at HE'
            clear hs hrt hrl hrun'
            by_cases hev : t % 2 = 0
            · rw [if_pos hev] at HE'
              have hE : Hid (R = some (k + 1)) := (unhide HE').symm
              have hev' : ((t : Int) % 2 == 0) = true := by simp; omega
              clear HE'
              go_wp2
              go_ret
              exact ⟨ret_int (by rw [unhide hE]; simp [endOf]), rfl⟩
            · rw [if_neg hev] at HE'
              have hev' : ((t : Int) % 2 == 0) = false := by simp; omega
              go_wp2
              go_round
              case rel => exact ⟨k + 1, f, by go_num, by omega, by omega, by omega, unhide HE'⟩
              case measure => simp [intOf]; omega
      · have hb2 : (B k != 34) = true := by simpa using h34
        rw [if_neg (by intro hh; exact h34 hh.1)] at HE
        have HE' := hide HE
        clear HE h34
        go_wp2
        go_round
        case rel => exact ⟨k + 1, f, by go_num, by omega, by omega, by omega, unhide HE'⟩
        case measure => simp [intOf]; omega
    · obtain rfl : k = n := by omega
      have hE : Hid (R = none) := by
        unfold Hid; rw [← unhide HR]
        cases f with
        | zero => rfl
        | succ f => unfold quotedM; rw [if_pos (Nat.le_refl _)]
      clear HR
      go_wp2
      go_ret
      exact ⟨ret_int (by rw [unhide hE]; rfl), rfl⟩
end Go.Proofs.Qxb6000100aDoor
