import Derived.Test.Qxb6000100aDoorEnds
set_option linter.unusedSimpArgs false
set_option linter.unusedVariables false
namespace Go.Proofs.Qxb6000100aDoor
open Go.RowKit Go.Proofs.Qxb6000100aDoor.Pl

set_option maxHeartbeats 2000000 in
theorem nested14 (g n : Nat) (B : Nat → Int) (i : Nat) (w : World) (hn : n ≤ 1048576) (hc : Lies w g n B) (hi : i < n) :
    Calls Tryd.prog 14 #[.slice (some ⟨g, 0, none⟩) n n, .int .i64 i] w fun r w' => r = .returned (.int .i64 (endOf (nest B n n (i + 1) 1 false false))) ∧ w' = w := by
  have HC := hide hc
  clear hc
  generalize hR : nest B n n (i + 1) 1 false false = R
  have HR := hide hR
  clear hR
  go_enter Tryd.func14, Tryd.ntmps14
  go_wp2
  go_loop [5, 6, 7, 8] (fun dd ss xx j => ∃ k f : Nat, ∃ d : Int, ∃ s x : Bool, j = .int .i64 k ∧ dd = .int .i64 d ∧ ss = .bool s ∧ xx = .bool x ∧ k ≤ n ∧ n ≤ k + f ∧ 1 ≤ d ∧ d ≤ k ∧ Hid (nest B n f k d s x = R)) (fun _ _ _ j => n - (intOf j).toNat)
  case atStart => exact ⟨i + 1, n, 1, false, false, by go_num, rfl, rfl, rfl, by omega, by omega, by omega, by omega, unhide HR⟩
  case round =>
    clear HR
    obtain ⟨k, f, d, s, x, rfl, rfl, rfl, rfl, hkn, hf, hd1, hd2, HR⟩ := hrel
    by_cases hlt : k < n
    · have hcx := unhide HC k hlt
      obtain ⟨f, rfl⟩ : ∃ f', f = f' + 1 := ⟨f - 1, by omega⟩
      have HE := unhide HR
      clear HR
      have hnk : ¬ n ≤ k := by omega
      cases s with
      | true =>
        cases x with
        | true =>
          unfold nest at HE
          rw [if_neg hnk] at HE
          have HE' := hide HE
          clear HE hnk
          go_wp2
          go_round
          case rel => exact ⟨k + 1, f, d, true, false, by go_num, rfl, rfl, rfl, by omega, by omega, by omega, by omega, unhide HE'⟩
          case measure => simp [intOf]; omega
        | false =>
          unfold nest at HE
          rw [if_neg hnk] at HE
          by_cases h92 : B k = 92
          · rw [if_pos h92] at HE
            have HE' := hide HE
            have hb : (B k == 92) = true := by simpa using h92
            clear HE hnk h92
            go_wp2
            go_round
            case rel => exact ⟨k + 1, f, d, true, true, by go_num, rfl, rfl, rfl, by omega, by omega, by omega, by omega, unhide HE'⟩
            case measure => simp [intOf]; omega
          · rw [if_neg h92] at HE
            have hb : (B k == 92) = false := by simpa using h92
            by_cases h34 : B k = 34
            · rw [if_pos h34] at HE
              have HE' := hide HE
              have hb2 : (B k == 34) = true := by simpa using h34
              clear HE hnk h92 h34
              go_wp2
              go_round
              case rel => exact ⟨k + 1, f, d, false, false, by go_num, rfl, rfl, rfl, by omega, by omega, by omega, by omega, unhide HE'⟩
              case measure => simp [intOf]; omega
            · rw [if_neg h34] at HE
              have HE' := hide HE
              have hb2 : (B k == 34) = false := by simpa using h34
              clear HE hnk h92 h34
              go_wp2
              go_round
              case rel => exact ⟨k + 1, f, d, true, false, by go_num, rfl, rfl, rfl, by omega, by omega, by omega, by omega, unhide HE'⟩
              case measure => simp [intOf]; omega
      | false =>
        unfold nest at HE
        rw [if_neg hnk] at HE
        clear hnk
        by_cases h34 : B k = 34
        · rw [if_pos h34] at HE
          have HE' := hide HE
          have hb : (B k == 34) = true := by simpa using h34
          clear HE h34
          go_wp2
          go_round
          case rel => exact ⟨k + 1, f, d, true, x, by go_num, rfl, rfl, rfl, by omega, by omega, by omega, by omega, unhide HE'⟩
          case measure => simp [intOf]; omega
        · rw [if_neg h34] at HE
          have hb : (B k == 34) = false := by simpa using h34
          clear h34
          by_cases ho : B k = 123 ∨ B k = 91
          · rw [if_pos ho] at HE
            have HE' := hide HE
            clear HE
            by_cases h123 : B k = 123
            · have hb1 : (B k == 123) = true := by simpa using h123
              clear ho h123
              go_wp2
              go_round
              case rel => exact ⟨k + 1, f, d + 1, false, x, by go_num, by go_num, rfl, rfl, by omega, by omega, by omega, by omega, unhide HE'⟩
              case measure => simp [intOf]; omega
            · have hb1 : (B k == 123) = false := by simpa using h123
              have hb2 : (B k == 91) = true := by simp; omega
              clear ho h123
              go_wp2
              go_round
              case rel => exact ⟨k + 1, f, d + 1, false, x, by go_num, by go_num, rfl, rfl, by omega, by omega, by omega, by omega, unhide HE'⟩
              case measure => simp [intOf]; omega
          · rw [if_neg ho] at HE
            have hb1 : (B k == 123) = false := by simp; omega
            have hb2 : (B k == 91) = false := by simp; omega
            clear ho
            by_cases hcl : B k = 125 ∨ B k = 93
            · rw [if_pos hcl] at HE
              obtain ⟨c1, c2, hb3, hb4⟩ : ∃ c1 c2 : Bool, (B k == 125) = c1 ∧ (c1 = false → (B k == 93) = c2 ∧ c2 = true) := by
                by_cases h125 : B k = 125
                · exact ⟨true, true, by simpa using h125, fun h => by cases h⟩
                · exact ⟨false, true, by simpa using h125, fun _ => ⟨by simp; omega, rfl⟩⟩
              clear hcl
              by_cases hd0 : d - 1 = 0
              · rw [if_pos hd0] at HE
                have HE' : Hid (R = some (k + 1)) := by unfold Hid; exact HE.symm
                have hdz : (d - 1 == 0) = true := by simpa using hd0
                have hd3 : d = 1 := by omega
                subst hd3
                clear HE hd0 hdz
                cases c1 with
                | true =>
                  clear hb4
                  go_wp2
                  go_ret
                  exact ⟨ret_int (by rw [unhide HE']; simp [endOf]), rfl⟩
                | false =>
                  obtain ⟨hb5, rfl⟩ := hb4 rfl
                  go_wp2
                  go_ret
                  exact ⟨ret_int (by rw [unhide HE']; simp [endOf]), rfl⟩
              · rw [if_neg hd0] at HE
                have HE' := hide HE
                have hdz : (d - 1 == 0) = false := by simpa using hd0
                have hd3 : 2 ≤ d := by omega
                clear HE hd0
                cases c1 with
                | true =>
                  clear hb4
                  go_wp2
                  go_round
                  case rel => exact ⟨k + 1, f, d - 1, false, x, by go_num, by go_num, rfl, rfl, by omega, by omega, by omega, by omega, unhide HE'⟩
                  case measure => simp [intOf]; omega
                | false =>
                  obtain ⟨hb5, rfl⟩ := hb4 rfl
                  go_wp2
                  go_round
                  case rel => exact ⟨k + 1, f, d - 1, false, x, by go_num, by go_num, rfl, rfl, by omega, by omega, by omega, by omega, unhide HE'⟩
                  case measure => simp [intOf]; omega
            · rw [if_neg hcl] at HE
              have HE' := hide HE
              have hb3 : (B k == 125) = false := by simp; omega
              have hb4 : (B k == 93) = false := by simp; omega
              clear HE hcl
              go_wp2
              go_round
              case rel => exact ⟨k + 1, f, d, false, x, by go_num, rfl, rfl, rfl, by omega, by omega, by omega, by omega, unhide HE'⟩
              case measure => simp [intOf]; omega
    · obtain rfl : k = n := by omega
      have hE : Hid (R = none) := by
        unfold Hid; rw [← unhide HR]
        cases f with
        | zero => rfl
        | succ f => cases s <;> cases x <;> (unfold nest; rw [if_pos (Nat.le_refl _)])
      clear HR
      go_wp2
      go_ret
      exact ⟨ret_int (by rw [unhide hE]; rfl), rfl⟩

set_option maxHeartbeats 2000000 in
theorem end7 (g n : Nat) (B : Nat → Int) (i : Nat) (w : World) (hn : n ≤ 1048576) (hc : Lies w g n B) (hi : i < n) :
    Calls Tryd.prog 7 #[.slice (some ⟨g, 0, none⟩) n n, .int .i64 i] w fun r w' => r = .returned (.int .i64 (endOf (modelEnd B n i))) ∧ w' = w := by
  have k13 := quoted13 g n B i w hn hc hi
  have k14 := nested14 g n B i w hn hc hi
  have hci := hc i hi
  have hi' : (i : Int) < n := by omega
  have hi0 : ¬ (n : Int) ≤ i := by omega
  have HC := hide hc
  clear hc
  unfold modelEnd
  by_cases h34 : B i = 34
  · rw [if_pos h34]
    have hb : (B i == 34) = true := by simpa using h34
    generalize endOf (quotedM B n i n (i + 1)) = R at k13 ⊢
    clear h34 k14
    go_enter Tryd.func7, Tryd.ntmps7
    go_wp2_with fail
    refine k13.mono ?_
    rintro e w' ⟨rfl, rfl⟩
    go_wp2
    go_ret
    exact ⟨rfl, rfl⟩
  · rw [if_neg h34]
    have hb : (B i == 34) = false := by simpa using h34
    clear h34 k13
    by_cases ho : B i = 123 ∨ B i = 91
    · rw [if_pos ho]
      generalize endOf (nest B n n (i + 1) 1 false false) = R at k14 ⊢
      by_cases h123 : B i = 123
      · have hb1 : (B i == 123) = true := by simpa using h123
        clear ho h123
        go_enter Tryd.func7, Tryd.ntmps7
        go_wp2_with fail
        refine k14.mono ?_
        rintro e w' ⟨rfl, rfl⟩
        go_wp2
        go_ret
        exact ⟨rfl, rfl⟩
      · have hb1 : (B i == 123) = false := by simpa using h123
        have hb2 : (B i == 91) = true := by simp; omega
        clear ho h123
        go_enter Tryd.func7, Tryd.ntmps7
        go_wp2_with fail
        refine k14.mono ?_
        rintro e w' ⟨rfl, rfl⟩
        go_wp2
        go_ret
        exact ⟨rfl, rfl⟩
    · rw [if_neg ho]
      have hb1 : (B i == 123) = false := by simp; omega
      have hb2 : (B i == 91) = false := by simp; omega
      clear ho k14
      generalize hR : bare B n n i = R
      have HR := hide hR
      clear hR
      go_enter Tryd.func7, Tryd.ntmps7
      go_wp2
      go_loop [6] (fun j => ∃ k f : Nat, j = .int .i64 k ∧ k ≤ n ∧ n ≤ k + f ∧ Hid (bare B n f k = R)) (fun j => n - (intOf j).toNat)
      case atStart => exact ⟨i, n, rfl, by omega, by omega, unhide HR⟩
      case round =>
        clear HR hci hi' hi0 hb hb1 hb2
        obtain ⟨k, f, rfl, hkn, hf, HR⟩ := hrel
        by_cases hlt : k < n
        · have hcx := unhide HC k hlt
          obtain ⟨f, rfl⟩ : ∃ f', f = f' + 1 := ⟨f - 1, by omega⟩
          have HE := unhide HR
          unfold bare at HE
          rw [if_neg (by omega)] at HE
          clear HR
          have k12 := fun w => delim12 (B k) w
          cases hdl : delim (B k) with
          | true =>
            rw [hdl] at k12
            rw [if_pos hdl] at HE
            have HE' := hide HE
            clear HE hdl
            go_wp2_with fail
            refine (k12 _).mono ?_
            rintro e w' ⟨rfl, rfl⟩
            go_wp2
            go_ret
            exact ⟨ret_int (by rw [← unhide HE']; simp [endOf]), rfl⟩
          | false =>
            rw [hdl] at k12
            rw [if_neg (by rw [hdl]; simp)] at HE
            have HE' := hide HE
            clear HE hdl
            go_wp2_with fail
            refine (k12 _).mono ?_
            rintro e w' ⟨rfl, rfl⟩
            go_wp2
            go_round
            case rel => exact ⟨k + 1, f, by go_num, by omega, by omega, unhide HE'⟩
            case measure => simp [intOf]; omega
        · obtain rfl : k = n := by omega
          have hE : Hid (R = none) := by
            unfold Hid; rw [← unhide HR]
            cases f with
            | zero => rfl
            | succ f => unfold bare; rw [if_pos (Nat.le_refl _)]
          clear HR
          go_wp2
          go_ret
          exact ⟨ret_int (by rw [unhide hE]; rfl), rfl⟩
end Go.Proofs.Qxb6000100aDoor
