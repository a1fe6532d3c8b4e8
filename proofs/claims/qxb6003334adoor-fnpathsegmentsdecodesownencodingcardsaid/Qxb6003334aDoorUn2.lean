import Derived.Test.Qxb6003334aDoorUn
import Derived.Deep.DrawnRows
import Derived.Laws.BitsAllLaws
set_option linter.unusedSimpArgs false
set_option linter.unusedVariables false
namespace Go.Proofs.Qxb6003334aDoor
open Go.RowKit Go.Shelf Go.Proofs.Qxb6003334aDoor.Pl

attribute [local go_sem ↓] Go.wp_at_zero Go.wp_at_succ
theorem cells_snoc (l : List UInt8) (c : UInt8) : Lib.byteCells (l ++ [c]) = Lib.byteCells l ++ [.int .u8 c.toNat] := by simp [Lib.byteCells]
theorem cells_len (l : List UInt8) : (Lib.byteCells l).length = l.length := by simp [Lib.byteCells]
theorem hexV_lt (c : UInt8) : hexV c < 256 := Nat.mod_lt _ (by decide)
theorem byte_or (a b : UInt8) : bits BinOp.or IntKind.u8 (IntKind.u8.wrap ((hexV a : Int) * 16)) (hexV b : Int) = ((byteV a b).toNat : Int) := by
  have e : IntKind.u8.wrap ((hexV a : Int) * 16) = (((hexV a * 16) % 256 : Nat) : Int) := by
    simp [IntKind.wrap, IntKind.bits, IntKind.signed]
  have hb := hexV_lt b
  have hm : (hexV a * 16) % 256 < 256 := Nat.mod_lt _ (by decide)
  rw [e, u8_or_nat _ _ hm hb]
  unfold byteV
  have hor : ((hexV a * 16) % 256 ||| hexV b) < 2 ^ 8 := Nat.or_lt_two_pow hm hb
  rw [UInt8.toNat_ofNat']
  rw [Nat.mod_eq_of_lt hor]
theorem ustep_plain (s : ByteArray) (k : Nat) (h : k < s.size) (hc : ((s[k].toNat : Int) == 37) = false) : unT (s.data.toList.drop k) = s[k] :: unT (s.data.toList.drop (k + 1)) := by
  rw [drop_at s k h, un_plain _ _ (by rintro e; rw [e] at hc; simp at hc)]
theorem ustep_esc (s : ByteArray) (k : Nat) (h : k + 2 < s.size) (hc : ((s[k].toNat : Int) == 37) = true) : unT (s.data.toList.drop k) = byteV s[k + 1] s[k + 2] :: unT (s.data.toList.drop (k + 3)) := by
  rw [drop_at s k (by omega), drop_at s (k + 1) (by omega), drop_at s (k + 2) (by omega), byte37 _ hc, un_esc]
/-- Where the scan is well formed, an escape stands whole. -/
theorem esc_room (s : ByteArray) (k m : Nat) (h : k < s.size) (hc : ((s[k].toNat : Int) == 37) = true) (hm : scanE (s.data.toList.drop k) = some m) :
    ∃ h2 : k + 2 < s.size, isHex s[k + 1] = true ∧ isHex s[k + 2] = true ∧ ∃ m', scanE (s.data.toList.drop (k + 3)) = some m' := by
  by_cases h2 : k + 2 < s.size
  · refine ⟨h2, ?_⟩
    cases hx : (isHex s[k + 1] && isHex s[k + 2]) with
    | false => rw [step_bad s k h2 hc hx] at hm; cases hm
    | true =>
      have hab : isHex s[k + 1] = true ∧ isHex s[k + 2] = true := by simpa using hx
      rw [step_esc s k h2 hc hab.1 hab.2] at hm
      obtain ⟨m', h', _⟩ := Option.map_eq_some_iff.1 hm
      exact ⟨hab.1, hab.2, m', h'⟩
  · rw [step_short s k h h2 hc] at hm; cases hm

set_option maxHeartbeats 4000000 in
set_option maxRecDepth 100000 in
/-- unescape, where every '%' opens an escape. -/
theorem un20_some (s : ByteArray) (w : World) (hs : s.size ≤ 16777216) (hT : HexTab w) (n0 : Nat) (hR : scanE s.data.toList = some n0) :
    Calls Tryd.prog 20 #[.string s, .int .u8 2] w fun e w' => e = .returned (.tuple #[.string ⟨(unT s.data.toList).toArray⟩, .nilIface]) ∧ Below w.heap.size w w' := by
  have k25 := fun c => ishex25 c w hT
  have hn3 := scan_le _ _ hR
  have hsl : s.data.toList.length = s.size := by simp
  have hn3' : 3 * n0 ≤ s.size := by omega
  clear hsl
  clear hn3
  have HZ := hide (un_zero s.data.toList)
  have HR := hide hR
  clear hR hT
  generalize hU : unT s.data.toList = U at *
  have HU := hide hU
  clear hU
  go_enter Tryd.func20, Tryd.ntmps20
  go_wp2
  go_loop [0, 6, 7, 8] (fun z c p i => ∃ k n m : Nat, z = .string s ∧ p = .bool false ∧ i = .int .i64 k ∧ c = .int .i64 n ∧ k ≤ s.size ∧ n ≤ k ∧ m + n = n0 ∧ Hid (scanE (s.data.toList.drop k) = some m)) (fun _ _ _ i => s.size - (intOf i).toNat)
  case atStart => exact ⟨0, 0, n0, rfl, rfl, rfl, rfl, Nat.zero_le _, by omega, by omega, by unfold Hid; rw [List.drop_zero]; exact unhide HR⟩
  case round =>
    obtain ⟨k, n, m, rfl, rfl, rfl, rfl, hk, hn, hmn, HK⟩ := hrel
    by_cases hlt : k < s.size
    · have H1 := hide (step_plain s k hlt)
      cases hc : ((s[k].toNat : Int) == 37) with
      | false =>
        have HE : Hid (scanE (s.data.toList.drop (k + 1)) = some m) := by unfold Hid; rw [← unhide H1 hc]; exact unhide HK
        clear H1 HK
        go_wp2
        all_goals
          go_round
          case rel => exact ⟨k + 1, n, m, rfl, rfl, by go_num, rfl, by omega, by omega, by omega, unhide HE⟩
          case measure => simp [intOf]; omega
      | true =>
        obtain ⟨h2, hx1, hx2, m', hm'⟩ := esc_room s k m hlt hc (unhide HK)
        have hmm : m = m' + 1 := by
          have := unhide HK
          rw [step_esc s k h2 hc hx1 hx2, hm'] at this
          simpa using this.symm
        have h1' : k + 1 < s.size := by omega
        have hge : ¬ (s.size : Int) ≤ (k : Int) + 2 := by omega
        have ka := k25 s[k + 1]
        rw [hx1] at ka
        have kb := k25 s[k + 2]
        rw [hx2] at kb
        have HE := hide hm'
        have hmn' : m' + (n + 1) = n0 := by omega
        clear H1 HK hx1 hx2 hm' hmm hmn
        go_wp2_with fail
        refine ka.mono ?_
        rintro e w1 ⟨rfl, rfl⟩
        go_wp2_with fail
        refine kb.mono ?_
        rintro e w1 ⟨rfl, rfl⟩
        go_wp2
        go_round
        case rel => exact ⟨k + 3, n + 1, m', rfl, rfl, by go_num, by go_num, by omega, by omega, by omega, unhide HE⟩
        case measure => simp [intOf]; omega
    · obtain rfl : k = s.size := by omega
      have hm0 : m = 0 := by
        have := unhide HK
        rw [drop_end] at this
        simp [scanE] at this
        exact this.symm
      obtain rfl : n = n0 := by omega
      clear HK hm0 hmn k25
      by_cases hz : n = 0
      · subst hz
        have HZ' : Hid (U = s.data.toList) := by unfold Hid; exact unhide HZ (unhide HR)
        clear HZ HU HR
        go_wp2
        go_ret2
        refine ⟨?_, Below.refl _ _⟩
        rw [unhide HZ']
        exact congrArg (fun x => Ending.returned (.tuple #[.string x, .nilIface])) rfl
      · have hzb : ((n : Int) == 0) = false := beq_eq_false_iff_ne.2 (by omega)
        clear HZ
        have k27 := c27 w.heap.size w.heap.size (s.size - 2 * n) (w.alloc (.cells #[.pointer none, .slice none 0 0] 56)) (Nat.le_refl _) (heap_alloc_new w _) (by simp) (by omega)
        have ecast : ((s.size - 2 * n : Nat) : Int) = (s.size : Int) - 2 * (n : Int) := by omega
        rw [ecast] at k27
        clear ecast
        go_wp2_with fail
        refine k27.mono ?_
        rintro e w1 ⟨rfl, hbu, hb1⟩
        clear k27
        have hb0 : Below w.heap.size w w1 := ((Below.refl _ _).alloc (Nat.le_refl _) _).trans hb1
        have hbu' : Lib.IsBuilder 56 5 w.heap.size w.heap.size (Lib.byteCells []) w1 := hbu
        have HB := hide hbu'
        clear hb1 hbu hbu'
        go_wp2
        go_loopw [12] (fun i wr => ∃ k m : Nat, ∃ D : List UInt8, i = .int .i64 k ∧ k ≤ s.size ∧ D.length ≤ k ∧ Hid (scanE (s.data.toList.drop k) = some m) ∧ Hid (D ++ unT (s.data.toList.drop k) = U) ∧ Hid (Lib.IsBuilder 56 5 w.heap.size w.heap.size (Lib.byteCells D) wr) ∧ Below w.heap.size w wr) (fun i _ => s.size - (intOf i).toNat)
        case atStart => exact ⟨0, n, [], rfl, Nat.zero_le _, Nat.zero_le _, by unfold Hid; rw [List.drop_zero]; exact unhide HR, by unfold Hid; rw [List.drop_zero]; exact unhide HU, unhide HB, hb0⟩
        case round =>
          clear HB hb0
          obtain ⟨k, m, D, rfl, hkn, hDk, HK, HD, HB, hbel⟩ := hrel
          have hBw := hbel.size
          by_cases hlt : k < s.size
          · cases hc : ((s[k].toNat : Int) == 37) with
            | false =>
              have HE : Hid (scanE (s.data.toList.drop (k + 1)) = some m) := by unfold Hid; rw [← step_plain s k hlt hc]; exact unhide HK
              have HD' : Hid ((D ++ [s[k]]) ++ unT (s.data.toList.drop (k + 1)) = U) := by
                unfold Hid; rw [← unhide HD, ustep_plain s k hlt hc]; simp
              have k28 := c28 w.heap.size w.heap.size (Lib.byteCells D) s[k].toNat wr (unhide HB) (by rw [cells_len]; omega) hBw
              rw [← cells_snoc] at k28
              clear HK HD HB
              cases hp : ((s[k].toNat : Int) == 43) with
              | true =>
                have h43 : (s[k].toNat : Int) = 43 := by simpa using hp
                rw [h43] at k28
                clear h43
                go_wp2_with fail
                refine k28.mono ?_
                rintro e w2 ⟨rfl, hbu, hb2⟩
                have HB2 := hide hbu
                clear hbu k28
                go_wp2
                go_roundw
                case rel => exact ⟨k + 1, m, D ++ [s[k]], by go_num, by omega, by simp; omega, unhide HE, unhide HD', unhide HB2, hbel.trans hb2⟩
                case measure => simp [intOf]; omega
              | false =>
                go_wp2_with fail
                refine k28.mono ?_
                rintro e w2 ⟨rfl, hbu, hb2⟩
                have HB2 := hide hbu
                clear hbu k28
                go_wp2
                go_roundw
                case rel => exact ⟨k + 1, m, D ++ [s[k]], by go_num, by omega, by simp; omega, unhide HE, unhide HD', unhide HB2, hbel.trans hb2⟩
                case measure => simp [intOf]; omega
            | true =>
              obtain ⟨h2, hx1, hx2, m', hm'⟩ := esc_room s k m hlt hc (unhide HK)
              have HE := hide hm'
              have HD' : Hid ((D ++ [byteV s[k + 1] s[k + 2]]) ++ unT (s.data.toList.drop (k + 3)) = U) := by
                unfold Hid; rw [← unhide HD, ustep_esc s k h2 hc]; simp
              have h1' : k + 1 < s.size := by omega
              have hi1 : (k : Int) + 1 < s.size := by omega
              have hi2 : (k : Int) + 2 < s.size := by omega
              have hz1 : (0 : Int) ≤ (k : Int) + 1 := by omega
              have hz2 : (0 : Int) ≤ (k : Int) + 2 := by omega
              have hw1 : IntKind.i64.wrap ((k : Int) + 1) = (k : Int) + 1 := by rw [IntKind.wrap_i64]; omega
              have hw2 : IntKind.i64.wrap ((k : Int) + 2) = (k : Int) + 2 := by rw [IntKind.wrap_i64]; omega
              have hlen : (Lib.byteCells D).length + 1 ≤ 140737488355328 := by rw [cells_len]; omega
              clear HK HD hm' hx1 hx2
              go_wp2_with fail
              go_region_with (first | (go_at_call 26; refine (unhex26 _ _).mono ?_; rintro e w' ⟨rfl, rfl⟩) | (go_at_call 28; refine (c28 w.heap.size w.heap.size (Lib.byteCells D) _ _ ?_ hlen ?_).mono ?_; exact unhide HB; exact hBw; rintro e w2 ⟨rfl, hbu, hb2⟩))
              all_goals
                have HB2 : Hid (Lib.IsBuilder 56 5 w.heap.size w.heap.size (Lib.byteCells (D ++ [byteV s[k + 1] s[k + 2]])) w2) := by
                  unfold Hid
                  rw [cells_snoc, ← byte_or]
                  exact hbu
                have hb2' : Below w.heap.size wr w2 := ((Below.refl _ _).drew).trans hb2
                clear hbu hb2 hw1 hw2
                go_wp2
                go_roundw
                case rel => exact ⟨k + 3, m', D ++ [byteV s[k + 1] s[k + 2]], by go_num, by omega, by simp; omega, unhide HE, unhide HD', unhide HB2, hbel.trans hb2'⟩
                case measure => simp [intOf]; omega
          · obtain rfl : k = s.size := by omega
            have hDU : D = U := by
              have := unhide HD
              rw [drop_end] at this
              simpa [unT] using this
            subst hDU
            have k29 := c29 w.heap.size w.heap.size D wr (unhide HB) hBw
            clear HK HD HB
            go_wp2_with fail
            refine k29.mono ?_
            rintro e w2 ⟨rfl, hb2⟩
            go_wp2
            go_ret2
            exact ⟨rfl, hbel.trans hb2⟩
end Go.Proofs.Qxb6003334aDoor
