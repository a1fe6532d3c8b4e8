import Derived.Test.Qxb6000054aDoorPort
set_option linter.unusedSimpArgs false
set_option linter.unusedVariables false
namespace Go.Proofs.Qxb6000054aDoor
open Go.RowKit Go.Shelf Go.Proofs.Qxb6000054aDoor.Pl

theorem data_get (s : ByteArray) (j : Nat) (hj : j < s.size) : s.data[j]! = s.data.toList[j]'(by simpa using hj) := by
  rw [getElem!_pos s.data j hj]; rfl
/-- The last colon of a text that is written as host, colon, port. -/
theorem port_of_parts (s : ByteArray) (H P : List UInt8) (hs : s.data.toList = H ++ 58 :: P) (hP : ∀ x ∈ P, x ≠ 58) : portR s = ans H P := by
  have hsz : s.size = H.length + (P.length + 1) := by
    have := congrArg List.length hs
    simpa using this
  have at' : ∀ j (hj : j < s.size), s.data[j]! = (H ++ 58 :: P)[j]'(by simp; omega) := fun j hj => by
    rw [data_get s j hj]; simp only [hs]
  have atH : s.data[H.length]! = 58 := by
    rw [at' _ (by omega)]; simp
  have atP : ∀ j, H.length < j → j < s.size → s.data[j]! ≠ 58 := fun j h1 h2 => by
    rw [at' j h2, List.getElem_append_right (by omega)]
    obtain ⟨m, hm⟩ : ∃ m, j - H.length = m + 1 := ⟨j - H.length - 1, by omega⟩
    simp only [hm, List.getElem_cons_succ]
    exact hP _ (List.getElem_mem _)
  unfold portR
  rcases Lib.lastIndexByte_spec s 58 with ⟨h, hno⟩ | ⟨i, hi, h, hc, hno⟩
  · exfalso
    exact hno H.length (by omega) (by rw [atH]; rfl)
  · have hc' : s.data[i]! = 58 := byte_eq _ 58 hc
    have e : i = H.length := by
      rcases Nat.lt_trichotomy i H.length with hlt | heq | hgt
      · exact absurd (by rw [atH]; rfl) (hno H.length hlt (by omega))
      · exact heq
      · exact absurd hc' (atP i hgt hi)
    rw [if_neg (by omega), h, e, hs]
    simp
theorem ans_free (H P : List UInt8) (h : H.contains 58 = false) : ans H P = P.any nd := by
  unfold ans; rw [h]; simp
theorem ans_bracket (h P : List UInt8) : ans (91 :: (h ++ [93])) P = P.any nd := by
  unfold ans
  have e : (91 :: (h ++ [93])).getLast? = some 93 := by
    rw [show (91 :: (h ++ [93]) : List UInt8) = (91 :: h) ++ [93] from rfl, List.getLast?_concat]
  rw [e]; simp

theorem bytes11 (h p : ByteArray) (b : Bool) (w : World) (hh : h.size ≤ maxLen) (hp : p.size ≤ maxLen) :
    Calls Tryd.prog 11 #[.string h, .string p, .bool b] w fun e w' => e = .returned (.bool (decide (h.size + p.size ≤ 1048576))) ∧ w' = w := by
  unfold maxLen at hh hp
  by_cases h1 : h.size ≤ 1048576
  · have g1 : ¬ (1048576 : Int) < h.size := by omega
    by_cases h2 : p.size ≤ 1048576
    · have g2 : ¬ (1048576 : Int) < p.size := by omega
      by_cases h3 : h.size + p.size ≤ 1048576
      · have g3 : ¬ (1048576 : Int) < h.size + p.size := by omega
        rw [decide_eq_true h3]
        go_enter Tryd.func11, Tryd.ntmps11
        go_wp2
        go_ret
        exact ⟨rfl, rfl⟩
      · have g3 : (1048576 : Int) < h.size + p.size := by omega
        rw [decide_eq_false h3]
        go_enter Tryd.func11, Tryd.ntmps11
        go_wp2
        go_ret
        exact ⟨rfl, rfl⟩
    · have g2 : (1048576 : Int) < p.size := by omega
      rw [decide_eq_false (by omega)]
      go_enter Tryd.func11, Tryd.ntmps11
      go_wp2
      go_ret
      exact ⟨rfl, rfl⟩
  · have g1 : (1048576 : Int) < h.size := by omega
    rw [decide_eq_false (by omega)]
    go_enter Tryd.func11, Tryd.ntmps11
    go_wp2
    go_ret
    exact ⟨rfl, rfl⟩

theorem mem_take (s : ByteArray) (k : Nat) (h : k < s.size) : s[k] ∈ s.data.toList := by
  have : s.data.toList[k]? = some s[k] := list_at s k h
  exact List.mem_of_getElem? this
theorem any_snoc (q : UInt8 → Bool) (s : ByteArray) (k : Nat) (h : k < s.size) : (s.data.toList.take (k + 1)).any q = ((s.data.toList.take k).any q || q s[k]) := by
  rw [take_snoc s k h]; simp
theorem any_yes (q : UInt8 → Bool) (s : ByteArray) (k : Nat) (h : k < s.size) (hq : q s[k] = true) : s.data.toList.any q = true :=
  List.any_eq_true.2 ⟨_, mem_take s k h, hq⟩
theorem any_all (q : UInt8 → Bool) (s : ByteArray) : s.data.toList.any q = (s.data.toList.take s.size).any q := by
  rw [List.take_of_length_le (by simp)]

def anyB (q : UInt8 → Bool) (s : ByteArray) : Bool := s.data.toList.any q
def isCol (c : UInt8) : Bool := c == 58
theorem isCol_yes (c : UInt8) (h : ((c.toNat : Int) == 58) = true) : isCol c = true := by
  have : (c.toNat : Int) = 58 := by simpa using h
  unfold isCol; rw [byte_eq c 58 this]; rfl
theorem isCol_no (c : UInt8) (h : ((c.toNat : Int) == 58) = false) : isCol c = false := by
  have : ¬ (c.toNat : Int) = 58 := by simpa using h
  unfold isCol; rw [beq_eq_false_iff_ne]; rintro rfl; exact this rfl

set_option maxHeartbeats 1000000 in
set_option maxRecDepth 100000 in
theorem col12 (s : ByteArray) (w : World) (hs : s.size ≤ 1048576) :
    Calls Tryd.prog 12 #[.string s] w fun e w' => e = .returned (.bool (anyB isCol s)) ∧ w' = w := by
  go_enter Tryd.func12, Tryd.ntmps12
  go_wp2
  go_loop [3] (fun i => ∃ k : Nat, k ≤ s.size ∧ i = .int .i64 k ∧ Hid ((s.data.toList.take k).any isCol = false)) (fun i => s.size - (intOf i).toNat)
  case atStart => exact ⟨0, Nat.zero_le _, rfl, rfl⟩
  case round =>
    obtain ⟨k, hk, rfl, hany⟩ := hrel
    by_cases hlt : k < s.size
    · have HS := hide (any_snoc isCol s k hlt)
      have HY := hide (any_yes isCol s k hlt)
      go_wp2
      · rename_i hc _
        have hy := unhide HY (isCol_yes s[k] hc)
        go_ret
        exact ⟨ret_bool (show true = anyB isCol s from hy.symm), rfl⟩
      · rename_i hc
        have hn := isCol_no s[k] hc
        go_round
        case rel => exact ⟨k + 1, by omega, by go_num, by unfold Hid; rw [unhide HS, unhide hany, hn]; rfl⟩
        case measure => simp [intOf]; omega
    · obtain rfl : k = s.size := by omega
      go_wp2
      go_ret
      exact ⟨ret_bool (by unfold anyB; rw [any_all, unhide hany]), rfl⟩

set_option maxHeartbeats 1000000 in
set_option maxRecDepth 100000 in
theorem dig10 (s : ByteArray) (w : World) (hs : s.size ≤ 1048576) :
    Calls Tryd.prog 10 #[.string s] w fun e w' => e = .returned (.bool (!anyB nd s)) ∧ w' = w := by
  go_enter Tryd.func10, Tryd.ntmps10
  go_wp2
  go_loop [3] (fun i => ∃ k : Nat, k ≤ s.size ∧ i = .int .i64 k ∧ Hid ((s.data.toList.take k).any nd = false)) (fun i => s.size - (intOf i).toNat)
  case atStart => exact ⟨0, Nat.zero_le _, rfl, rfl⟩
  case round =>
    obtain ⟨k, hk, rfl, hany⟩ := hrel
    by_cases hlt : k < s.size
    · have HS := hide (any_snoc nd s k hlt)
      have HY := hide (any_yes nd s k hlt)
      go_wp2
      · have hy := unhide HY (nd_yes s[k] (by assumption))
        go_ret
        exact ⟨ret_bool (by unfold anyB; rw [hy]; rfl), rfl⟩
      · have hd2 : 48 ≤ (s[k].toNat : Int) ∧ (s[k].toNat : Int) ≤ 57 := by assumption
        have hn := nd_no s[k] hd2.1 hd2.2
        go_round
        case rel => exact ⟨k + 1, by omega, by go_num, by unfold Hid; rw [unhide HS, unhide hany, hn]; rfl⟩
        case measure => simp [intOf]; omega
      · have hy := unhide HY (nd_yes s[k] (.inl (by assumption)))
        go_ret
        exact ⟨ret_bool (by unfold anyB; rw [hy]; rfl), rfl⟩
    · obtain rfl : k = s.size := by omega
      go_wp2
      go_ret
      exact ⟨ret_bool (by unfold anyB; rw [any_all, unhide hany]; rfl), rfl⟩

theorem nondig13 (s : ByteArray) (w : World) (hs : s.size ≤ 1048576) :
    Calls Tryd.prog 13 #[.string s] w fun e w' => e = .returned (.bool (anyB nd s)) ∧ w' = w := by
  have k := dig10 s w hs
  generalize anyB nd s = b at k ⊢
  go_enter Tryd.func13, Tryd.ntmps13
  go_wp2_with fail
  refine k.mono ?_
  rintro e w' ⟨rfl, rfl⟩
  go_wp2
  go_ret
  exact ⟨ret_bool (by simp), rfl⟩

theorem app_list (a b : ByteArray) : (a ++ b).data.toList = a.data.toList ++ b.data.toList := by simp
theorem size1 (h p : ByteArray) : (h ++ ⟨#[58]⟩ ++ p).size = h.size + 1 + p.size := by
  rw [ByteArray.size_append, ByteArray.size_append]; rfl
theorem size2 (h p : ByteArray) : (⟨#[91]⟩ ++ h ++ ⟨#[93, 58]⟩ ++ p : ByteArray).size = 1 + h.size + 2 + p.size := by
  rw [ByteArray.size_append, ByteArray.size_append, ByteArray.size_append]; rfl
theorem free_of (s : ByteArray) (h : anyB isCol s = false) : ∀ x ∈ s.data.toList, x ≠ 58 := by
  intro x hx e
  unfold anyB at h
  have := List.any_eq_false.1 h x hx
  rw [e] at this
  exact this rfl
theorem contains_of (s : ByteArray) (h : anyB isCol s = false) : s.data.toList.contains 58 = false := by
  have := free_of s h
  rw [Bool.eq_false_iff]
  intro hc
  exact this 58 (by simpa using hc) rfl
theorem port_plain (h p : ByteArray) (hp : anyB isCol p = false) (hh : anyB isCol h = false) : portR (h ++ ⟨#[58]⟩ ++ p) = anyB nd p := by
  rw [port_of_parts _ h.data.toList p.data.toList (by rw [app_list, app_list]; simp) (free_of p hp), ans_free _ _ (contains_of h hh)]
  rfl
theorem port_brack (h p : ByteArray) (hp : anyB isCol p = false) : portR (⟨#[91]⟩ ++ h ++ ⟨#[93, 58]⟩ ++ p) = anyB nd p := by
  rw [port_of_parts _ (91 :: (h.data.toList ++ [93])) p.data.toList (by rw [app_list, app_list, app_list]; simp) (free_of p hp), ans_bracket]
  rfl

set_option maxHeartbeats 1000000 in
theorem law5 (h p : ByteArray) (b : Bool) (w : World) (hh : h.size ≤ maxLen) (hp : p.size ≤ maxLen) :
    Calls Tryd.prog 5 #[.string h, .string p, .bool b] w fun e w' => e = .returned (.bool true) ∧ Below w.heap.size w w' := by
  have k11 := bytes11 h p b w hh hp
  unfold maxLen at hh hp
  by_cases hsz : h.size + p.size ≤ 1048576
  · have g1 : ¬ (1048576 : Int) < h.size := by omega
    have g2 : ¬ (1048576 : Int) < p.size := by omega
    have g3 : ¬ (1048576 : Int) < (h.size : Int) + p.size := by omega
    rw [decide_eq_true hsz] at k11
    have k12p := fun w => col12 p w (by omega)
    have k12h := fun w => col12 h w (by omega)
    have k13 := fun w => nondig13 p w (by omega)
    cases hcp : anyB isCol p with
    | true =>
      rw [hcp] at k12p
      go_enter Tryd.func5, Tryd.ntmps5
      go_wp2_with fail
      refine k11.mono ?_
      rintro e w' ⟨rfl, rfl⟩
      go_wp2_with fail
      refine (k12p _).mono ?_
      rintro e w1 ⟨rfl, rfl⟩
      go_wp2
      go_ret
      exact ⟨rfl, Below.refl _ _⟩
    | false =>
      rw [hcp] at k12p
      cases b with
      | true =>
        have k7 := fun w => zz7 (⟨#[91]⟩ ++ h ++ ⟨#[93, 58]⟩ ++ p) w (by rw [size2]; omega)
        rw [port_brack h p hcp] at k7
        generalize anyB nd p = v at k13 k7
        clear hcp
        go_enter Tryd.func5, Tryd.ntmps5
        go_wp2_with fail
        refine k11.mono ?_
        rintro e w' ⟨rfl, rfl⟩
        go_wp2_with fail
        refine (k12p _).mono ?_
        rintro e w1 ⟨rfl, rfl⟩
        go_wp2_with fail
        refine (k7 _).mono ?_
        rintro e w2 ⟨rfl, hb⟩
        go_wp2_with fail
        refine (k13 _).mono ?_
        rintro e w3 ⟨rfl, rfl⟩
        go_wp2
        go_ret
        exact ⟨ret_bool (by simp), hb⟩
      | false =>
        cases hch : anyB isCol h with
        | true =>
          rw [hch] at k12h
          clear hcp hch
          go_enter Tryd.func5, Tryd.ntmps5
          go_wp2_with fail
          refine k11.mono ?_
          rintro e w' ⟨rfl, rfl⟩
          go_wp2_with fail
          refine (k12p _).mono ?_
          rintro e w1 ⟨rfl, rfl⟩
          go_wp2_with fail
          refine (k12h _).mono ?_
          rintro e w2 ⟨rfl, rfl⟩
          go_wp2
          go_ret
          exact ⟨rfl, Below.refl _ _⟩
        | false =>
          rw [hch] at k12h
          have k7 := fun w => zz7 (h ++ ⟨#[58]⟩ ++ p) w (by rw [size1]; omega)
          rw [port_plain h p hcp hch] at k7
          generalize anyB nd p = v at k13 k7
          clear hcp hch
          go_enter Tryd.func5, Tryd.ntmps5
          go_wp2_with fail
          refine k11.mono ?_
          rintro e w' ⟨rfl, rfl⟩
          go_wp2_with fail
          refine (k12p _).mono ?_
          rintro e w1 ⟨rfl, rfl⟩
          go_wp2_with fail
          refine (k12h _).mono ?_
          rintro e w2 ⟨rfl, rfl⟩
          go_wp2_with fail
          refine (k7 _).mono ?_
          rintro e w3 ⟨rfl, hb⟩
          go_wp2_with fail
          refine (k13 _).mono ?_
          rintro e w4 ⟨rfl, rfl⟩
          go_wp2
          go_ret
          exact ⟨ret_bool (by simp), hb⟩
  · rw [decide_eq_false hsz] at k11
    go_enter Tryd.func5, Tryd.ntmps5
    go_wp2_with fail
    refine k11.mono ?_
    rintro e w' ⟨rfl, rfl⟩
    go_wp2
    go_ret
    exact ⟨rfl, Below.refl _ _⟩
end Go.Proofs.Qxb6000054aDoor
