import Derived.Test.Qxb6000100aDoorNest
set_option linter.unusedSimpArgs false
set_option linter.unusedVariables false
namespace Go.Proofs.Qxb6000100aDoor
open Go.RowKit Go.Proofs.Qxb6000100aDoor.Pl

def chars : ByteArray := ⟨#[44, 125, 32, 9, 13, 10]⟩
/-- What bytes.IndexAny(line[i:], chars) answers, where a delimiter stands. -/
def Said18 (g n : Nat) (B : Nat → Int) (i : Nat) (w : World) : Prop :=
  ∀ d, bare B n n i = some (i + d) → Calls Tryd.prog 18 #[.slice (some ⟨g, i, none⟩) (n - i) (n - i), .string ⟨#[44, 125, 32, 9, 13, 10]⟩] w fun e w' => e = .returned (.int .i64 d) ∧ Below w.heap.size w w'

set_option maxHeartbeats 2000000 in
theorem any15 (g n : Nat) (B : Nat → Int) (i m : Nat) (w : World) (hn : n ≤ 1048576) (hc : Lies w g n B) (hi : i < n) (k18 : Said18 g n B i w) (hm : modelEnd B n i = some m) :
    Calls Tryd.prog 15 #[.slice (some ⟨g, 0, none⟩) n n, .int .i64 i] w fun r w' => r = .returned (.tuple #[.slice (some ⟨g, i, none⟩) (m - i) (n - i), .int .i64 m]) ∧ Below w.heap.size w w' := by
  have hci := hc i hi
  have hi' : (i : Int) < n := by omega
  have HC := hide hc
  clear hc
  unfold modelEnd at hm
  by_cases h34 : B i = 34
  · rw [if_pos h34] at hm
    have hle := quotedM_le B n i _ _ _ hm
    obtain ⟨f, hs⟩ := quoted_str B n i n (i + 1) m (by omega) (by simp [bsRun]) hm
    have k17 := str17 g n B i f m w hn (unhide HC) hi hs
    have hb : (B i == 34) = true := by simpa using h34
    have hmn : (m : Int) ≤ n := by omega
    have him : (i : Int) ≤ m := by omega
    clear h34 k18 hs hm
    go_enter Tryd.func15, Tryd.ntmps15
    go_wp2_with fail
    refine k17.mono ?_
    rintro e w' ⟨rfl, rfl⟩
    go_wp2
    go_ret2
    exact ⟨rfl, Below.refl _ _⟩
  · rw [if_neg h34] at hm
    have hb : (B i == 34) = false := by simpa using h34
    clear h34
    by_cases ho : B i = 123 ∨ B i = 91
    · rw [if_pos ho] at hm
      have hle := nest_le B n _ _ _ _ _ _ hm
      have HM := hide hm
      obtain ⟨c1, hb1, hb2⟩ : ∃ c1 : Bool, (B i == 123) = c1 ∧ (c1 = false → (B i == 91) = true) := by
        by_cases h123 : B i = 123
        · exact ⟨true, by simpa using h123, fun h => by cases h⟩
        · exact ⟨false, by simpa using h123, fun _ => by simp; omega⟩
      clear ho hm k18
      cases c1 with
      | true =>
        clear hb2
        go_enter Tryd.func15, Tryd.ntmps15
        go_wp2
        go_loop [6, 7] (fun e dd => ∃ k : Nat, ∃ d : Int, e = .int .i64 k ∧ dd = .int .i64 d ∧ k ≤ n ∧ d ≤ k ∧ ((1 ≤ d ∧ ∃ f, nest B n f k d false false = some m) ∨ (d = 0 ∧ k = m))) (fun e _ => n - (intOf e).toNat)
        case atStart => exact ⟨i + 1, 1, by go_num, rfl, by omega, by omega, .inl ⟨by omega, n, unhide HM⟩⟩
        case round =>
          clear HM hb hb1 hci
          obtain ⟨k, d, rfl, rfl, hkn, hdk, ⟨hd1, f, hN⟩ | ⟨rfl, rfl⟩⟩ := hrel
          · have hlt := nest_le B n _ _ _ _ _ _ hN
            have hlt' : k < n := by omega
            have hcx := unhide HC k hlt'
            match f, hN with
            | 0, hN => simp [nest] at hN
            | f + 1, hN =>
              unfold nest at hN
              rw [if_neg (by omega)] at hN
              by_cases h34 : B k = 34
              · rw [if_pos h34] at hN
                obtain ⟨g1, e, g2, hs, hN2⟩ := nest_str B n f (k + 1) d m hN
                have hse := strEnd_le B n _ _ _ hs
                have k17 := fun w hc => str17 g n B k g1 e w hn hc hlt' hs
                have hb : (B k == 34) = true := by simpa using h34
                have HN2 := hide hN2
                clear hN h34 hN2 hs
                go_wp2_with fail
                refine (k17 _ (unhide HC)).mono ?_
                rintro r w' ⟨rfl, rfl⟩
                go_wp2
                go_round
                case rel => exact ⟨e, d, by go_num, rfl, by omega, by omega, .inl ⟨hd1, g2, unhide HN2⟩⟩
                case measure => simp [intOf]; omega
              · rw [if_neg h34] at hN
                have hb : (B k == 34) = false := by simpa using h34
                clear h34
                by_cases ho : B k = 123 ∨ B k = 91
                · rw [if_pos ho] at hN
                  have HN2 := hide hN
                  clear hN
                  by_cases h123 : B k = 123
                  · have hb1 : (B k == 123) = true := by simpa using h123
                    clear ho h123
                    go_wp2
                    go_round
                    case rel => exact ⟨k + 1, d + 1, by go_num, by go_num, by omega, by omega, .inl ⟨by omega, f, unhide HN2⟩⟩
                    case measure => simp [intOf]; omega
                  · have hb1 : (B k == 123) = false := by simpa using h123
                    have hb2 : (B k == 91) = true := by simp; omega
                    clear ho h123
                    go_wp2
                    go_round
                    case rel => exact ⟨k + 1, d + 1, by go_num, by go_num, by omega, by omega, .inl ⟨by omega, f, unhide HN2⟩⟩
                    case measure => simp [intOf]; omega
                · rw [if_neg ho] at hN
                  have hb1 : (B k == 123) = false := by simp; omega
                  have hb2 : (B k == 91) = false := by simp; omega
                  clear ho
                  by_cases hcl : B k = 125 ∨ B k = 93
                  · rw [if_pos hcl] at hN
                    have HK : Hid ((d - 1 = 0 ∧ k + 1 = m) ∨ (1 ≤ d - 1 ∧ ∃ f, nest B n f (k + 1) (d - 1) false false = some m)) := by
                      unfold Hid
                      by_cases hd0 : d - 1 = 0
                      · rw [if_pos hd0] at hN; exact .inl ⟨hd0, by simpa using hN⟩
                      · rw [if_neg hd0] at hN; exact .inr ⟨by omega, f, hN⟩
                    clear hN
                    by_cases h125 : B k = 125
                    · have hb3 : (B k == 125) = true := by simpa using h125
                      clear hcl h125
                      go_wp2
                      go_round
                      case rel => exact ⟨k + 1, d - 1, by go_num, by go_num, by omega, by omega, (unhide HK).symm⟩
                      case measure => simp [intOf]; omega
                    · have hb3 : (B k == 125) = false := by simpa using h125
                      have hb4 : (B k == 93) = true := by simp; omega
                      clear hcl h125
                      go_wp2
                      go_round
                      case rel => exact ⟨k + 1, d - 1, by go_num, by go_num, by omega, by omega, (unhide HK).symm⟩
                      case measure => simp [intOf]; omega
                  · rw [if_neg hcl] at hN
                    have HN2 := hide hN
                    have hb3 : (B k == 125) = false := by simp; omega
                    have hb4 : (B k == 93) = false := by simp; omega
                    clear hN hcl
                    go_wp2
                    go_round
                    case rel => exact ⟨k + 1, d, by go_num, rfl, by omega, by omega, .inl ⟨by omega, f, unhide HN2⟩⟩
                    case measure => simp [intOf]; omega
          · have hmn : (k : Int) ≤ n := by omega
            have him : (i : Int) ≤ k := by omega
            go_wp2
            go_ret2
            exact ⟨rfl, Below.refl _ _⟩
      | false =>
        have hb3 := hb2 rfl
        clear hb2
        go_enter Tryd.func15, Tryd.ntmps15
        go_wp2
        go_loop [6, 7] (fun e dd => ∃ k : Nat, ∃ d : Int, e = .int .i64 k ∧ dd = .int .i64 d ∧ k ≤ n ∧ d ≤ k ∧ ((1 ≤ d ∧ ∃ f, nest B n f k d false false = some m) ∨ (d = 0 ∧ k = m))) (fun e _ => n - (intOf e).toNat)
        case atStart => exact ⟨i + 1, 1, by go_num, rfl, by omega, by omega, .inl ⟨by omega, n, unhide HM⟩⟩
        case round =>
          clear HM hb hb1 hci hb3
          obtain ⟨k, d, rfl, rfl, hkn, hdk, ⟨hd1, f, hN⟩ | ⟨rfl, rfl⟩⟩ := hrel
          · have hlt := nest_le B n _ _ _ _ _ _ hN
            have hlt' : k < n := by omega
            have hcx := unhide HC k hlt'
            match f, hN with
            | 0, hN => simp [nest] at hN
            | f + 1, hN =>
              unfold nest at hN
              rw [if_neg (by omega)] at hN
              by_cases h34 : B k = 34
              · rw [if_pos h34] at hN
                obtain ⟨g1, e, g2, hs, hN2⟩ := nest_str B n f (k + 1) d m hN
                have hse := strEnd_le B n _ _ _ hs
                have k17 := fun w hc => str17 g n B k g1 e w hn hc hlt' hs
                have hb : (B k == 34) = true := by simpa using h34
                have HN2 := hide hN2
                clear hN h34 hN2 hs
                go_wp2_with fail
                refine (k17 _ (unhide HC)).mono ?_
                rintro r w' ⟨rfl, rfl⟩
                go_wp2
                go_round
                case rel => exact ⟨e, d, by go_num, rfl, by omega, by omega, .inl ⟨hd1, g2, unhide HN2⟩⟩
                case measure => simp [intOf]; omega
              · rw [if_neg h34] at hN
                have hb : (B k == 34) = false := by simpa using h34
                clear h34
                by_cases ho : B k = 123 ∨ B k = 91
                · rw [if_pos ho] at hN
                  have HN2 := hide hN
                  clear hN
                  by_cases h123 : B k = 123
                  · have hb1 : (B k == 123) = true := by simpa using h123
                    clear ho h123
                    go_wp2
                    go_round
                    case rel => exact ⟨k + 1, d + 1, by go_num, by go_num, by omega, by omega, .inl ⟨by omega, f, unhide HN2⟩⟩
                    case measure => simp [intOf]; omega
                  · have hb1 : (B k == 123) = false := by simpa using h123
                    have hb2 : (B k == 91) = true := by simp; omega
                    clear ho h123
                    go_wp2
                    go_round
                    case rel => exact ⟨k + 1, d + 1, by go_num, by go_num, by omega, by omega, .inl ⟨by omega, f, unhide HN2⟩⟩
                    case measure => simp [intOf]; omega
                · rw [if_neg ho] at hN
                  have hb1 : (B k == 123) = false := by simp; omega
                  have hb2 : (B k == 91) = false := by simp; omega
                  clear ho
                  by_cases hcl : B k = 125 ∨ B k = 93
                  · rw [if_pos hcl] at hN
                    have HK : Hid ((d - 1 = 0 ∧ k + 1 = m) ∨ (1 ≤ d - 1 ∧ ∃ f, nest B n f (k + 1) (d - 1) false false = some m)) := by
                      unfold Hid
                      by_cases hd0 : d - 1 = 0
                      · rw [if_pos hd0] at hN; exact .inl ⟨hd0, by simpa using hN⟩
                      · rw [if_neg hd0] at hN; exact .inr ⟨by omega, f, hN⟩
                    clear hN
                    by_cases h125 : B k = 125
                    · have hb3 : (B k == 125) = true := by simpa using h125
                      clear hcl h125
                      go_wp2
                      go_round
                      case rel => exact ⟨k + 1, d - 1, by go_num, by go_num, by omega, by omega, (unhide HK).symm⟩
                      case measure => simp [intOf]; omega
                    · have hb3 : (B k == 125) = false := by simpa using h125
                      have hb4 : (B k == 93) = true := by simp; omega
                      clear hcl h125
                      go_wp2
                      go_round
                      case rel => exact ⟨k + 1, d - 1, by go_num, by go_num, by omega, by omega, (unhide HK).symm⟩
                      case measure => simp [intOf]; omega
                  · rw [if_neg hcl] at hN
                    have HN2 := hide hN
                    have hb3 : (B k == 125) = false := by simp; omega
                    have hb4 : (B k == 93) = false := by simp; omega
                    clear hN hcl
                    go_wp2
                    go_round
                    case rel => exact ⟨k + 1, d, by go_num, rfl, by omega, by omega, .inl ⟨by omega, f, unhide HN2⟩⟩
                    case measure => simp [intOf]; omega
          · have hmn : (k : Int) ≤ n := by omega
            have him : (i : Int) ≤ k := by omega
            go_wp2
            go_ret2
            exact ⟨rfl, Below.refl _ _⟩
    · rw [if_neg ho] at hm
      have hb1 : (B i == 123) = false := by simp; omega
      have hb2 : (B i == 91) = false := by simp; omega
      obtain ⟨hle, hmn, _, _⟩ := bare_spec B n _ _ _ hm
      obtain ⟨d, rfl⟩ : ∃ d, m = i + d := ⟨m - i, by omega⟩
      have k := k18 d hm
      have hmn' : (i : Int) + d ≤ n := by omega
      clear ho hm k18
      go_enter Tryd.func15, Tryd.ntmps15
      go_wp2_with fail
      refine k.mono ?_
      rintro e w1 ⟨rfl, hb⟩
      go_wp2
      go_ret2
      exact ⟨rfl, hb⟩
end Go.Proofs.Qxb6000100aDoor
