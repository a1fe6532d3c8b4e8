import Derived.Test.Qxb6003334aDoorSmall
import Derived.Test.Qxb6003334aDoorShelf
import Derived.Deep.RegionWith
set_option linter.unusedSimpArgs false
set_option linter.unusedVariables false
namespace Go.Proofs.Qxb6003334aDoor
open Go.RowKit Go.Shelf Go.Proofs.Qxb6003334aDoor.Pl

theorem c27 (B b n : Nat) (w : World) (hB : B ≤ b) (hbk : w.heap[b]? = some (.cells #[.pointer none, .slice none 0 0] 56 (0, 0))) (hBw : B ≤ w.heap.size) (hn : n ≤ 281474976710656) :
    Calls Tryd.prog 27 #[.pointer (some ⟨b, 0, none⟩), .int .i64 n] w fun e w' => e = .returned (.tuple #[]) ∧ (Lib.IsBuilder 56 5 B b [] w' ∧ Below B w w') :=
  (Any.Builder_Grow_fresh Tryd.lays165 Tryd.Builder_Extra_165 B b n w hB hbk hBw hn).mono fun _ _ h => ⟨h.1, .inr h.2.1, h.2.2⟩
theorem c28 (B b : Nat) (bs : List Value) (c : Int) (w : World) (h : Lib.IsBuilder 56 5 B b bs w) (hlen : bs.length + 1 ≤ 140737488355328) (hBw : B ≤ w.heap.size) :
    Calls Tryd.prog 28 #[.pointer (some ⟨b, 0, none⟩), .int .u8 c] w fun e w' => e = .returned .nilIface ∧ (Lib.IsBuilder 56 5 B b (bs ++ [.int .u8 c]) w' ∧ Below B w w') :=
  (Any.Builder_WriteByte Tryd.lays167 Tryd.Builder_Extra_167 B b bs c w h hlen hBw).mono fun _ _ h => ⟨h.1, .inr h.2.1, h.2.2⟩
theorem c29 (B b : Nat) (l : List UInt8) (w : World) (h : Lib.IsBuilder 56 5 B b (Lib.byteCells l) w) (hBw : B ≤ w.heap.size) :
    Calls Tryd.prog 29 #[.pointer (some ⟨b, 0, none⟩)] w fun e w' => e = .returned (.string ⟨l.toArray⟩) ∧ Below B w w' :=
  Any.Builder_String_any Tryd.lays169 Tryd.Builder_Extra_169 B b l w h hBw

set_option maxHeartbeats 4000000 in
set_option maxRecDepth 100000 in
/-- unescape, where a '%' opens no escape. -/
theorem un20_none (s : ByteArray) (w : World) (hs : s.size ≤ 16777216) (hT : HexTab w) (hR : scanE s.data.toList = none) :
    Calls Tryd.prog 20 #[.string s, .int .u8 2] w fun e w' => (∃ t : ByteArray, e = .returned (.tuple #[.string ⟨#[]⟩, .iface 52 (.string t)])) ∧ w' = w := by
  have k25 := fun c => ishex25 c w hT
  have HR := hide hR
  clear hR hT
  go_enter Tryd.func20, Tryd.ntmps20
  go_wp2
  go_loop [0, 6, 7, 8] (fun z c p i => ∃ k n : Nat, z = .string s ∧ p = .bool false ∧ i = .int .i64 k ∧ c = .int .i64 n ∧ k ≤ s.size ∧ n ≤ k ∧ Hid (scanE (s.data.toList.drop k) = none)) (fun _ _ _ i => s.size - (intOf i).toNat)
  case atStart => exact ⟨0, 0, rfl, rfl, rfl, rfl, Nat.zero_le _, by omega, by unfold Hid; rw [List.drop_zero]; exact unhide HR⟩
  case round =>
    clear HR
    obtain ⟨k, n, rfl, rfl, rfl, rfl, hk, hn, HR⟩ := hrel
    by_cases hlt : k < s.size
    · have H1 := hide (step_plain s k hlt)
      cases hc : ((s[k].toNat : Int) == 37) with
      | false =>
        have HE : Hid (scanE (s.data.toList.drop (k + 1)) = none) := by unfold Hid; rw [← unhide H1 hc]; exact unhide HR
        clear H1 HR
        go_wp2
        all_goals
          go_round
          case rel => exact ⟨k + 1, n, rfl, rfl, by go_num, rfl, by omega, by omega, unhide HE⟩
          case measure => simp [intOf]; omega
      | true =>
        clear H1
        by_cases h2 : k + 2 < s.size
        · have h1' : k + 1 < s.size := by omega
          have hge : ¬ (s.size : Int) ≤ (k : Int) + 2 := by omega
          have H2 := hide (step_esc s k h2 hc)
          cases hx1 : isHex s[k + 1] with
          | false =>
            have ka := k25 s[k + 1]
            rw [hx1] at ka
            clear H2 HR hx1
            go_wp2_with fail
            refine ka.mono ?_
            rintro e w1 ⟨rfl, rfl⟩
            go_wp2
            all_goals (go_ret2; exact ⟨⟨_, rfl⟩, rfl⟩)
          | true =>
            have ka := k25 s[k + 1]
            rw [hx1] at ka
            have kb := k25 s[k + 2]
            cases hx2 : isHex s[k + 2] with
            | false =>
              rw [hx2] at kb
              clear H2 HR hx1 hx2
              go_wp2_with fail
              refine ka.mono ?_
              rintro e w1 ⟨rfl, rfl⟩
              go_wp2_with fail
              refine kb.mono ?_
              rintro e w1 ⟨rfl, rfl⟩
              go_wp2
              all_goals (go_ret2; exact ⟨⟨_, rfl⟩, rfl⟩)
            | true =>
              rw [hx2] at kb
              have HE : Hid (scanE (s.data.toList.drop (k + 3)) = none) := by
                unfold Hid
                have := unhide HR
                rw [unhide H2 hx1 hx2] at this
                simpa using this
              clear H2 HR hx1 hx2
              go_wp2_with fail
              refine ka.mono ?_
              rintro e w1 ⟨rfl, rfl⟩
              go_wp2_with fail
              refine kb.mono ?_
              rintro e w1 ⟨rfl, rfl⟩
              go_wp2
              go_round
              case rel => exact ⟨k + 3, n + 1, rfl, rfl, by go_num, by go_num, by omega, by omega, unhide HE⟩
              case measure => simp [intOf]; omega
        · have hge : (s.size : Int) ≤ (k : Int) + 2 := by omega
          clear HR
          go_wp2
          all_goals (go_ret2; exact ⟨⟨_, rfl⟩, rfl⟩)
    · obtain rfl : k = s.size := by omega
      exfalso
      have := unhide HR
      rw [drop_end] at this
      cases this
end Go.Proofs.Qxb6003334aDoor
