import Derived.Test.Qxb6000100aDoorSmall
set_option linter.unusedSimpArgs false
set_option linter.unusedVariables false
namespace Go.Proofs.Qxb6000100aDoor
open Go.RowKit Go.Proofs.Qxb6000100aDoor.Pl

set_option maxHeartbeats 1000000 in
theorem same9 (g o m c1 c2 : Nat) (B : Nat → Int) (w : World) (hm : m ≤ 1048576) (hc : ∀ k, k < m → w.cell? ⟨g, o + k, none⟩ = some (.int .u8 (B k))) :
    Calls Tryd.prog 9 #[.slice (some ⟨g, o, none⟩) m c1, .slice (some ⟨g, o, none⟩) m c2] w fun e w' => e = .returned (.bool true) ∧ ∃ q, w' = w.drewN q := by
  have HC := hide hc
  clear hc
  go_enter Tryd.func9, Tryd.ntmps9
  go_wp2
  go_loopw [5] (fun i wr => ∃ k : Nat, k ≤ m ∧ i = .int .i64 k ∧ ∃ q, wr = w.drewN q) (fun i _ => m - (intOf i).toNat)
  case atStart => exact ⟨0, Nat.zero_le _, rfl, 0, rfl⟩
  case round =>
    obtain ⟨k, hk, rfl, q, rfl⟩ := hrel
    by_cases hlt : k < m
    · have hcx : w.cell? ⟨g, o + k, none⟩ = some (.int .u8 (B k)) := unhide HC k hlt
      have hlt' : (k : Int) < m := by omega
      go_wp2
      go_quiet (fail)
      go_wp2
      go_roundw
      case rel => exact ⟨k + 1, by omega, by go_num, _, rfl⟩
      case measure => simp [intOf]; omega
    · obtain rfl : k = m := by omega
      go_wp2
      go_ret
      exact ⟨rfl, q, rfl⟩

set_option maxHeartbeats 1000000 in
theorem delim12 (c : Int) (w : World) : Calls Tryd.prog 12 #[.int .u8 c] w fun e w' => e = .returned (.bool (delim c)) ∧ w' = w := by
  have HD : Hid (delim c = (c == 44 || (c == 125 || (c == 32 || (c == 9 || (c == 13 || c == 10)))))) := by unfold Hid; rfl
  go_enter Tryd.func12, Tryd.ntmps12
  cases h1 : (c == 44) with
  | true => go_wp2; go_ret; exact ⟨ret_bool (by rw [unhide HD, h1]; rfl), rfl⟩
  | false =>
  cases h2 : (c == 125) with
  | true => go_wp2; go_ret; exact ⟨ret_bool (by rw [unhide HD, h1, h2]; rfl), rfl⟩
  | false =>
  cases h3 : (c == 32) with
  | true => go_wp2; go_ret; exact ⟨ret_bool (by rw [unhide HD, h1, h2, h3]; rfl), rfl⟩
  | false =>
  cases h4 : (c == 9) with
  | true => go_wp2; go_ret; exact ⟨ret_bool (by rw [unhide HD, h1, h2, h3, h4]; rfl), rfl⟩
  | false =>
  cases h5 : (c == 13) with
  | true => go_wp2; go_ret; exact ⟨ret_bool (by rw [unhide HD, h1, h2, h3, h4, h5]; rfl), rfl⟩
  | false =>
  cases h6 : (c == 10) with
  | true => go_wp2; go_ret; exact ⟨ret_bool (by rw [unhide HD, h1, h2, h3, h4, h5, h6]; rfl), rfl⟩
  | false => go_wp2; go_ret; exact ⟨ret_bool (by rw [unhide HD, h1, h2, h3, h4, h5, h6]; rfl), rfl⟩

set_option maxHeartbeats 1000000 in
/-- The reader of a string, where the string ends inside the line. -/
theorem str17 (g n : Nat) (B : Nat → Int) (i : Nat) (f e : Nat) (w : World) (hn : n ≤ 1048576) (hc : Lies w g n B) (hi : i < n) (h : strEnd B n f (i + 1) = some e) :
    Calls Tryd.prog 17 #[.slice (some ⟨g, 0, none⟩) n n, .int .i64 i] w fun r w' => r = .returned (.int .i64 e) ∧ w' = w := by
  have HC := hide hc
  have HS := hide h
  clear hc h
  go_enter Tryd.func17, Tryd.ntmps17
  go_wp2
  go_loop [5] (fun j => ∃ k f : Nat, j = .int .i64 k ∧ k ≤ n ∧ Hid (strEnd B n f k = some e)) (fun j => n - (intOf j).toNat)
  case atStart => exact ⟨i + 1, f, by go_num, by omega, unhide HS⟩
  case round =>
    clear HS
    obtain ⟨k, f, rfl, hkn, HS⟩ := hrel
    have hle := strEnd_le B n f k e (unhide HS)
    have hkn' : k < n := by omega
    have hcx := unhide HC k hkn'
    match f, HS with
    | 0, HS => simp [Hid, strEnd] at HS
    | f + 1, HS =>
      have HE := unhide HS
      unfold strEnd at HE
      rw [if_neg (by omega)] at HE
      by_cases h92 : B k = 92
      · rw [if_pos h92] at HE
        have hle2 := strEnd_le B n f (k + 2) e HE
        have HE' := hide HE
        have hb : (B k == 92) = true := by simpa using h92
        clear HE HS h92
        go_wp2
        go_round
        case rel => exact ⟨k + 2, f, by go_num, by omega, unhide HE'⟩
        case measure => simp [intOf]; omega
      · rw [if_neg h92] at HE
        have hb : (B k == 92) = false := by simpa using h92
        by_cases h34 : B k = 34
        · rw [if_pos h34] at HE
          have HE' : Hid (k + 1 = e) := by unfold Hid; simpa using HE
          have hb2 : (B k == 34) = true := by simpa using h34
          clear HE HS h92 h34
          go_wp2
          go_ret
          exact ⟨ret_int (by rw [← unhide HE']; omega), rfl⟩
        · rw [if_neg h34] at HE
          have hle2 := strEnd_le B n f (k + 1) e HE
          have HE' := hide HE
          have hb2 : (B k == 34) = false := by simpa using h34
          clear HE HS h92 h34
          go_wp2
          go_round
          case rel => exact ⟨k + 1, f, by go_num, by omega, unhide HE'⟩
          case measure => simp [intOf]; omega
end Go.Proofs.Qxb6000100aDoor
