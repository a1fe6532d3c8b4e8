import Derived.Test.Qxb6003334aDoorProg
import Derived.Test.Qxb6003334aDoorPlain
import Derived.WalkKit
import Derived.WalkSpells
import Derived.Handy
import Derived.WalkSmall
import Derived.Laws.OwnMore
import Derived.Deep.QuietTactic
import Derived.BigQuiet
set_option linter.unusedSimpArgs false
set_option linter.unusedVariables false
namespace Go.Proofs.Qxb6003334aDoor
open Go.RowKit Go.Proofs.Qxb6003334aDoor.Pl

theorem hide {p : Prop} (h : p) : Hid p := h
theorem unhide {p : Prop} (h : Hid p) : p := h
theorem ret_bool {a b : Bool} (h : a = b) : Ending.returned (.bool a) = .returned (.bool b) := by rw [h]
theorem ret_int {k : IntKind} {a b : Int} (h : a = b) : Ending.returned (.int k a) = .returned (.int k b) := by rw [h]
theorem below_drew (w : World) (n : Nat) : Below w.heap.size w (w.drewN n) := below_drewN (Below.refl _ _) n
theorem drop_at (s : ByteArray) (k : Nat) (h : k < s.size) : s.data.toList.drop k = s[k] :: s.data.toList.drop (k + 1) := by
  have hl : k < s.data.toList.length := by simpa using h
  rw [List.drop_eq_getElem_cons hl]; rfl
theorem drop_end (s : ByteArray) : s.data.toList.drop s.size = [] := List.drop_of_length_le (by simp)

theorem bytes9 (s : ByteArray) (w : World) (hs : s.size ≤ maxLen) :
    Calls Tryd.prog 9 #[.string s] w fun e w' => e = .returned (.bool (decide (s.size ≤ 1048576))) ∧ w' = w := by
  unfold maxLen at hs
  by_cases h : s.size ≤ 1048576
  · have h1 : ¬ (1048576 : Int) < s.size := by omega
    rw [decide_eq_true h]
    go_enter Tryd.func9, Tryd.ntmps9
    go_wp2
    go_ret
    exact ⟨rfl, rfl⟩
  · have h1 : (1048576 : Int) < s.size := by omega
    rw [decide_eq_false h]
    go_enter Tryd.func9, Tryd.ntmps9
    go_wp2
    go_ret
    exact ⟨rfl, rfl⟩

theorem hex_def (c : UInt8) : isHex c = ((decide (48 ≤ (c.toNat : Int)) && decide ((c.toNat : Int) ≤ 57)) || ((decide (97 ≤ (c.toNat : Int)) && decide ((c.toNat : Int) ≤ 102)) || (decide (65 ≤ (c.toNat : Int)) && decide ((c.toNat : Int) ≤ 70)))) := by
  unfold isHex
  rw [Bool.eq_iff_iff]
  simp only [Bool.or_eq_true, Bool.and_eq_true, decide_eq_true_eq]
  omega
set_option maxHeartbeats 1000000 in
theorem hex14 (c : UInt8) (w : World) : Calls Tryd.prog 14 #[.int .u8 c.toNat] w fun e w' => e = .returned (.bool (isHex c)) ∧ w' = w := by
  have HD := hide (hex_def c)
  generalize (c.toNat : Int) = x at *
  go_enter Tryd.func14, Tryd.ntmps14
  go_wp2
  all_goals go_ret
  all_goals exact ⟨ret_bool (by rw [unhide HD, Bool.eq_iff_iff]; simp; omega), rfl⟩

theorem hexV_all : ∀ k : Fin 256, (9 * ((k.val : Int) / 64) % 256 + bits BinOp.and IntKind.u8 (k.val : Int) 15) % 256 = (hexV (UInt8.ofNat k.val) : Nat) := by decide +kernel
theorem hexV_def (c : UInt8) : (9 * ((c.toNat : Int) / 64) % 256 + bits BinOp.and IntKind.u8 (c.toNat : Int) 15) % 256 = (hexV c : Nat) := by
  have := hexV_all ⟨c.toNat, UInt8.toNat_lt c⟩
  simpa using this
set_option maxHeartbeats 1000000 in
theorem unhex26 (c : UInt8) (w : World) : Calls Tryd.prog 26 #[.int .u8 c.toNat] w fun e w' => e = .returned (.int .u8 (hexV c)) ∧ w' = w := by
  go_enter Tryd.func26, Tryd.ntmps26
  go_wp2
  go_ret
  exact ⟨ret_int (hexV_def c), rfl⟩

/-- net/url's table, as the row lists it. -/
def tabZ (c : Nat) : Int := if isHex (UInt8.ofNat c) = true then 128 else 0
/-- What the walks want of the table: of each byte, whether its mark 'hexChar' is set. -/
def HexTab (w : World) : Prop := ∀ c : UInt8, ∃ t : Int, w.cell? ⟨0, c.toNat, none⟩ = some (.int .u8 t) ∧ (bits BinOp.and IntKind.u8 t 128 != 0) = isHex c
theorem HexTab.below {w w' : World} (h : HexTab w) (hb : Below w.heap.size w w') : HexTab w' := fun c => by
  obtain ⟨t, h1, h2⟩ := h c
  exact ⟨t, by rw [hb.cell (p := ⟨0, c.toNat, none⟩) (World.block_lt_of_cell? _ _ h1)]; exact h1, h2⟩
set_option maxHeartbeats 1000000 in
theorem ishex25 (c : UInt8) (w : World) (h : HexTab w) : Calls Tryd.prog 25 #[.int .u8 c.toNat] w fun e w' => e = .returned (.bool (isHex c)) ∧ w' = w := by
  obtain ⟨t, h1, h2⟩ := h c
  have H2 := hide h2
  have hlt : (c.toNat : Int) < 256 := by have := UInt8.toNat_lt c; omega
  clear h h2
  go_enter Tryd.func25, Tryd.ntmps25
  go_wp2
  go_ret
  exact ⟨ret_bool (unhide H2), rfl⟩

/-! ### the scan, step by step -/
theorem step_plain (s : ByteArray) (k : Nat) (h : k < s.size) (hc : ((s[k].toNat : Int) == 37) = false) : scanE (s.data.toList.drop k) = scanE (s.data.toList.drop (k + 1)) := by
  rw [drop_at s k h, scan_plain _ _ (by rintro e; rw [e] at hc; simp at hc)]
theorem byte37 (c : UInt8) (hc : ((c.toNat : Int) == 37) = true) : c = 37 := by
  have h : (c.toNat : Int) = 37 := by simpa using hc
  exact UInt8.toNat_inj.1 (show c.toNat = 37 by omega)
theorem step_esc (s : ByteArray) (k : Nat) (h : k + 2 < s.size) (hc : ((s[k].toNat : Int) == 37) = true) (h1 : isHex s[k + 1] = true) (h2 : isHex s[k + 2] = true) : scanE (s.data.toList.drop k) = (scanE (s.data.toList.drop (k + 3))).map (· + 1) := by
  rw [drop_at s k (by omega), drop_at s (k + 1) (by omega), drop_at s (k + 2) (by omega), byte37 _ hc, scan_esc _ _ _ (by rw [h1, h2]; rfl)]
theorem step_bad (s : ByteArray) (k : Nat) (h : k + 2 < s.size) (hc : ((s[k].toNat : Int) == 37) = true) (h1 : (isHex s[k + 1] && isHex s[k + 2]) = false) : scanE (s.data.toList.drop k) = none := by
  rw [drop_at s k (by omega), drop_at s (k + 1) (by omega), drop_at s (k + 2) (by omega), byte37 _ hc, scan_bad _ _ _ h1]
theorem step_short (s : ByteArray) (k : Nat) (h : k < s.size) (h2 : ¬ k + 2 < s.size) (hc : ((s[k].toNat : Int) == 37) = true) : scanE (s.data.toList.drop k) = none := by
  rw [drop_at s k h, byte37 _ hc]
  by_cases h3 : k + 1 < s.size
  · obtain e : s.size = k + 1 + 1 := by omega
    rw [drop_at s (k + 1) h3, ← e, drop_end]; rfl
  · obtain e : s.size = k + 1 := by omega
    rw [← e, drop_end]; rfl

set_option maxHeartbeats 2000000 in
set_option maxRecDepth 100000 in
/-- scanEscapes. -/
theorem scan10 (s : ByteArray) (w : World) (hs : s.size ≤ 1048576) :
    Calls Tryd.prog 10 #[.string s] w fun e w' => (∃ n : Int, e = .returned (.tuple #[.int .i64 n, .bool (scanE s.data.toList).isSome]) ∧ ∀ m, scanE s.data.toList = some m → n = m) ∧ w' = w := by
  have k14 := fun c w => hex14 c w
  generalize hR : scanE s.data.toList = R
  have HR := hide hR
  clear hR
  go_enter Tryd.func10, Tryd.ntmps10
  go_wp2
  go_loop [4, 5] (fun c i => ∃ k n : Nat, i = .int .i64 k ∧ c = .int .i64 n ∧ k ≤ s.size ∧ 3 * n ≤ k ∧ Hid ((scanE (s.data.toList.drop k)).map (· + n) = R)) (fun _ i => s.size - (intOf i).toNat)
  case atStart => exact ⟨0, 0, rfl, rfl, Nat.zero_le _, by omega, by unfold Hid; rw [List.drop_zero, ← unhide HR]; simp⟩
  case round =>
    clear HR
    obtain ⟨k, n, rfl, rfl, hk, hn, HR⟩ := hrel
    by_cases hlt : k < s.size
    · have H1 := hide (step_plain s k hlt)
      cases hc : ((s[k].toNat : Int) == 37) with
      | false =>
        have HE : Hid ((scanE (s.data.toList.drop (k + 1))).map (· + n) = R) := by unfold Hid; rw [← unhide H1 hc]; exact unhide HR
        clear H1 HR
        go_wp2
        go_round
        case rel => exact ⟨k + 1, n, by go_num, rfl, by omega, by omega, unhide HE⟩
        case measure => simp [intOf]; omega
      | true =>
        clear H1
        by_cases h2 : k + 2 < s.size
        · have h1' : k + 1 < s.size := by omega
          have hge : ¬ (s.size : Int) ≤ (k : Int) + 2 := by omega
          have H2 := hide (step_esc s k h2 hc)
          have H3 := hide (step_bad s k h2 hc)
          cases hx1 : isHex s[k + 1] with
          | false =>
            have HE : Hid (R = none) := by unfold Hid; rw [← unhide HR, unhide H3 (by rw [hx1]; rfl)]; rfl
            have ka := fun w => k14 s[k + 1] w
            rw [hx1] at ka
            clear H2 H3 HR hx1
            go_wp2_with fail
            refine (ka _).mono ?_
            rintro e w1 ⟨rfl, rfl⟩
            go_wp2
            go_ret2
            refine ⟨⟨n, ?_, fun m hm => ?_⟩, rfl⟩
            · rw [unhide HE]; rfl
            · rw [unhide HE] at hm; cases hm
          | true =>
            have ka := fun w => k14 s[k + 1] w
            rw [hx1] at ka
            cases hx2 : isHex s[k + 2] with
            | false =>
              have HE : Hid (R = none) := by unfold Hid; rw [← unhide HR, unhide H3 (by rw [hx2]; simp)]; rfl
              have kb := fun w => k14 s[k + 2] w
              rw [hx2] at kb
              clear H2 H3 HR hx1 hx2
              go_wp2_with fail
              refine (ka _).mono ?_
              rintro e w1 ⟨rfl, rfl⟩
              go_wp2_with fail
              refine (kb _).mono ?_
              rintro e w1 ⟨rfl, rfl⟩
              go_wp2
              go_ret2
              refine ⟨⟨n, ?_, fun m hm => ?_⟩, rfl⟩
              · rw [unhide HE]; rfl
              · rw [unhide HE] at hm; cases hm
            | true =>
              have HE : Hid ((scanE (s.data.toList.drop (k + 3))).map (· + (n + 1)) = R) := by
                unfold Hid
                rw [← unhide HR, unhide H2 hx1 hx2, Option.map_map]
                congr 1
                funext x; simp; omega
              have kb := fun w => k14 s[k + 2] w
              rw [hx2] at kb
              clear H2 H3 HR hx1 hx2
              go_wp2_with fail
              refine (ka _).mono ?_
              rintro e w1 ⟨rfl, rfl⟩
              go_wp2_with fail
              refine (kb _).mono ?_
              rintro e w1 ⟨rfl, rfl⟩
              go_wp2
              go_round
              case rel => exact ⟨k + 3, n + 1, by go_num, by go_num, by omega, by omega, unhide HE⟩
              case measure => simp [intOf]; omega
        · have hge : (s.size : Int) ≤ (k : Int) + 2 := by omega
          have HE : Hid (R = none) := by unfold Hid; rw [← unhide HR, step_short s k hlt h2 hc]; rfl
          clear HR
          go_wp2
          go_ret2
          refine ⟨⟨n, ?_, fun m hm => ?_⟩, rfl⟩
          · rw [unhide HE]; rfl
          · rw [unhide HE] at hm; cases hm
    · obtain rfl : k = s.size := by omega
      have HE : Hid (R = some n) := by unfold Hid; rw [← unhide HR, drop_end]; simp [scanE]
      clear HR
      go_wp2
      go_ret2
      refine ⟨⟨n, ?_, fun m hm => ?_⟩, rfl⟩
      · rw [unhide HE]; rfl
      · rw [unhide HE] at hm; simp at hm; omega
end Go.Proofs.Qxb6003334aDoor
