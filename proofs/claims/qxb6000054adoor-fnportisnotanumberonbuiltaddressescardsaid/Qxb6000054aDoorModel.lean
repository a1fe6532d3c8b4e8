import Derived.Test.Qxb6000054aDoorProg
import Derived.Test.Qxb6000054aDoorPlain
import Derived.WalkKit
import Derived.WalkSpells
import Derived.Handy
set_option linter.unusedSimpArgs false
set_option linter.unusedVariables false
namespace Go.Proofs.Qxb6000054aDoor
open Go.RowKit Go.Proofs.Qxb6000054aDoor.Pl

theorem hide {p : Prop} (h : p) : Hid p := h
theorem unhide {p : Prop} (h : Hid p) : p := h
theorem ret_bool {a b : Bool} (h : a = b) : Ending.returned (.bool a) = .returned (.bool b) := by rw [h]

theorem bytes6 (s : ByteArray) (w : World) (hs : s.size ≤ maxLen) :
    Calls Tryd.prog 6 #[.string s] w fun e w' => e = .returned (.bool (decide (s.size ≤ 1048576))) ∧ w' = w := by
  unfold maxLen at hs
  by_cases h : s.size ≤ 1048576
  · have h1 : ¬ (1048576 : Int) < s.size := by omega
    go_enter Tryd.func6, Tryd.ntmps6
    go_wp2
    go_ret
    exact ⟨by simp [h], rfl⟩
  · have h1 : (1048576 : Int) < s.size := by omega
    go_enter Tryd.func6, Tryd.ntmps6
    go_wp2
    go_ret
    exact ⟨by simp [h], rfl⟩

/-- THE MODEL's ANSWER: no colon: false; the last one at i: 'modB'. -/
def modR (s : ByteArray) : Bool := decide (1 ≤ cnt s.data.toList) && modB s (Lib.lastIndexByte s 58).toNat

set_option maxHeartbeats 1000000 in
set_option maxRecDepth 100000 in
theorem model8 (s : ByteArray) (w : World) (hs : s.size ≤ 1048576) :
    Calls Tryd.prog 8 #[.string s] w fun e w' => e = .returned (.bool (modR s)) ∧ w' = w := by
  go_enter Tryd.func8, Tryd.ntmps8
  go_wp2
  go_loop [3, 4, 5, 6] (fun c l n i => ∃ k : Nat, k ≤ s.size ∧ i = .int .i64 k ∧ c = .int .i64 (cnt (s.data.toList.take k)) ∧ l = .int .i64 (Lib.lastIdx s 58 k) ∧ n = .bool (ndAfter (s.data.toList.take k))) (fun _ _ _ i => s.size - (intOf i).toNat)
  case atStart => exact ⟨0, Nat.zero_le _, rfl, rfl, rfl, rfl⟩
  case round =>
    obtain ⟨k, hk, rfl, rfl, rfl, rfl⟩ := hrel
    have hcr := cnt_le (s.data.toList.take k)
    have hlk : (s.data.toList.take k).length ≤ k := List.length_take_le _ _
    have hlr := lidx_range s k
    by_cases hlt : k < s.size
    · have hts := take_snoc s k hlt
      have HC : Hid (cnt (s.data.toList.take (k + 1)) = cnt (s.data.toList.take k) + if (s[k].toNat : Int) = 58 then 1 else 0) := by rw [hts]; exact cnt_snoc _ _
      have HN : Hid (ndAfter (s.data.toList.take (k + 1)) = if s[k] == 58 then false else ndAfter (s.data.toList.take k) || nd s[k]) := by rw [hts]; exact ndAfter_snoc _ _
      clear hts

      by_cases hc : (s[k].toNat : Int) = 58
      · have HL := lidx_hit s k hlt hc
        have HL' : Hid (Lib.lastIdx s 58 (k + 1) = k) := HL
        clear HL
        have hcb : ((s[k].toNat : Int) == 58) = true := by simpa using hc
        have H1 : Hid ((s[k].toNat : Int) = 58) := hc
        clear hc
        go_wp2
        go_round
        case rel =>
          exact ⟨k + 1, by omega, by go_num, by rw [HC.out, if_pos H1.out], by rw [HL'.out], by rw [HN.out, show s[k] = 58 from byte_eq _ 58 H1.out]; rfl⟩
        case measure => simp [intOf]; omega
      · have HL' : Hid (Lib.lastIdx s 58 (k + 1) = Lib.lastIdx s 58 k) := lidx_miss s k hlt hc
        have hcb : ((s[k].toNat : Int) == 58) = false := by simpa using hc
        have H1 : Hid (¬ (s[k].toNat : Int) = 58) := hc
        have H2 : Hid ((s[k] == 58) = false) := by
          simp only [beq_eq_false_iff_ne]; intro e; exact hc (by rw [e]; rfl)
        clear hc
        go_wp2
        · have hd := nd_yes s[k] (by assumption)
          go_round
          case rel =>
            exact ⟨k + 1, by omega, by go_num, by rw [HC.out, if_neg H1.out]; go_num, by rw [HL'.out], by rw [HN.out, H2.out, hd]; simp⟩
          case measure => simp [intOf]; omega
        · have hd2 : 48 ≤ (s[k].toNat : Int) ∧ (s[k].toNat : Int) ≤ 57 := by assumption
          have hd := nd_no s[k] hd2.1 hd2.2
          go_round
          case rel =>
            exact ⟨k + 1, by omega, by go_num, by rw [HC.out, if_neg H1.out]; go_num, by rw [HL'.out], by rw [HN.out, H2.out, hd]; simp⟩
          case measure => simp [intOf]; omega
        · have hd2 : ¬ 48 ≤ (s[k].toNat : Int) := by assumption
          have hd := nd_yes s[k] (.inl (by omega))
          go_round
          case rel =>
            exact ⟨k + 1, by omega, by go_num, by rw [HC.out, if_neg H1.out]; go_num, by rw [HL'.out], by rw [HN.out, H2.out, hd]; simp⟩
          case measure => simp [intOf]; omega
    · obtain rfl : k = s.size := by omega
      clear hlt
      have e : s.data.toList.take s.size = s.data.toList := List.take_of_length_le (by simp)
      rw [e] at hcr ⊢
      clear e hlk hlr
      have HR : Hid (modR s = (decide (1 ≤ cnt s.data.toList) && modB s (Lib.lastIdx s 58 s.size).toNat)) := by unfold Hid; rfl
      have sp := Lib.lastIndexByte_spec s 58
      unfold Lib.lastIndexByte at sp
      rcases sp with ⟨hla, hno⟩ | ⟨i, hi, hla, hci, hno⟩
      · have hz := cnt_zero s hno
        have HF : Hid (modR s = false) := by unfold Hid; rw [HR.out, hz]; rfl
        rw [hz, hla]
        clear hz hla hno hcr HR
        generalize ndAfter s.data.toList = n
        go_wp2
        go_ret
        exact ⟨ret_bool (by rw [HF.out]), rfl⟩
      · rw [data_at s i hi] at hci
        have hfree := drop_free s i hno
        have hpos := cnt_pos s i hi hci
        have h2i := cnt_two s i hi hci hfree
        have HR' : Hid (modR s = modB s i) := by unfold Hid; rw [HR.out, hla]; simp [hpos]
        clear HR hno hfree
        have HCI : Hid (Lib.lastIdx s 58 s.size = (i : Int)) := hla
        rw [hla]
        clear hla hci
        have m1 := modB_one s i
        have m2 := modB_two s i
        generalize cnt s.data.toList = c at *
        generalize ndAfter s.data.toList = n at *
        have hc0 : (c == 0) = false := by simp; omega
        by_cases h2 : 2 ≤ c
        · have h1i := h2i h2
          have h0 : 0 < s.size := by omega
          obtain ⟨j, rfl⟩ : ∃ j, i = j + 1 := ⟨i - 1, by omega⟩
          have hj : j < s.size := by omega
          have HM : Hid (modR s = ((((s[0].toNat : Int) == 91) && ((s[j].toNat : Int) == 93)) && (decide (j + 1 + 1 < s.size) && n))) := by
            unfold Hid; rw [HR'.out, m2 h2 h0 (by omega)]; rfl
          clear m1 m2 HR' h2i
          go_wp2
          · rename_i h91 h93 _
            have e93 : ((s[j].toNat : Int) == 93) = false := by simpa using h93
            go_ret
            exact ⟨ret_bool (by rw [HM.out, e93]; simp), rfl⟩
          · have e91 : (s[0].toNat : Int) = 91 := by assumption
            have h93 : (!(s[j].toNat : Int) == 93) = false := by assumption
            have e93 : ((s[j].toNat : Int) == 93) = true := by simpa using h93
            have hlt : j + 1 + 1 < s.size := by omega
            go_ret
            exact ⟨ret_bool (by rw [HM.out, e91, e93]; simp [hlt]), rfl⟩
          · have hlt : ¬ j + 1 + 1 < s.size := by omega
            go_ret
            exact ⟨ret_bool (by rw [HM.out]; simp [hlt]), rfl⟩
          · have e91 : ¬ (s[0].toNat : Int) = 91 := by assumption
            have e91' : ((s[0].toNat : Int) == 91) = false := by simpa using e91
            go_ret
            exact ⟨ret_bool (by rw [HM.out, e91']; simp), rfl⟩
        · have HM : Hid (modR s = (decide (i + 1 < s.size) && n)) := by unfold Hid; rw [HR'.out, m1 h2]
          clear m1 m2 HR' h2i
          go_wp2
          · have hlt : i + 1 < s.size := by omega
            go_ret
            exact ⟨ret_bool (by rw [HM.out]; simp [hlt]), rfl⟩
          · have hlt : ¬ i + 1 < s.size := by omega
            go_ret
            exact ⟨ret_bool (by rw [HM.out]; simp [hlt]), rfl⟩
end Go.Proofs.Qxb6000054aDoor
