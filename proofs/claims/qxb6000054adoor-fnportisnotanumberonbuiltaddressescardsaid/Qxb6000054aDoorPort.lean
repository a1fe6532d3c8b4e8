import Derived.Test.Qxb6000054aDoorShelf
import Derived.Test.Qxb6000054aDoorModel
import Derived.Deep.QuietTactic
import Derived.BigQuiet
import Derived.WalkSmall
set_option linter.unusedSimpArgs false
set_option linter.unusedVariables false
namespace Go.Proofs.Qxb6000054aDoor
open Go.RowKit Go.Shelf Go.Proofs.Qxb6000054aDoor.Pl

theorem below_drew (w : World) (n : Nat) : Below w.heap.size w (w.drewN n) := below_drewN (Below.refl _ _) n
theorem c15 (s : ByteArray) (w : World) (i : Int) (hs : s.size < 4611686018427387904) (h : Lib.lastIndexByte s 58 = i) :
    Calls Tryd.prog 15 #[.string s, .string ⟨#[58]⟩] w fun e w' => e = .returned (.int .i64 i) ∧ w' = w := by
  have := Any.strings_LastIndex_one Tryd.lays148 s ⟨#[58]⟩ rfl hs w
  rw [← h]; exact this
theorem index_in : ∀ (l : List UInt8) (c : UInt8), decide (0 ≤ Lib.indexByte l c) = l.contains c
  | [], c => rfl
  | b :: l, c => by
    have ih := index_in l c
    have hge := Lib.indexByte_ge l c
    unfold Lib.indexByte
    by_cases hb : (b == c) = true
    · simp [hb, List.contains_cons]
      left; exact (by simpa using hb : b = c).symm
    · have hb' : (b == c) = false := by simpa using hb
      have hcb : (c == b) = false := by rw [beq_eq_false_iff_ne] at hb' ⊢; exact fun e => hb' e.symm
      rw [hb', List.contains_cons, hcb, Bool.false_or, ← ih]
      simp only [Bool.false_eq_true, if_false]
      by_cases hm : Lib.indexByte l c = -1
      · simp [hm]
      · have : ¬ ((Lib.indexByte l c == -1) = true) := by simpa using hm
        rw [if_neg this]
        rw [Bool.eq_iff_iff]; simp only [decide_eq_true_eq]; omega
theorem c16 (s : ByteArray) (w : World) (b : Bool) (h : s.data.toList.contains 58 = b) :
    Calls Tryd.prog 16 #[.string s, .string ⟨#[58]⟩] w fun e w' => e = .returned (.bool b) ∧ w' = w := by
  have := Any.strings_Contains_one Tryd.lays144 s 58 w
  rw [index_in] at this
  rw [← h]; exact this
theorem prefix_one (l : List UInt8) (c : UInt8) : Lib.hasPrefix l [c] = (l.head? == some c) := by
  cases l with
  | nil => rfl
  | cons a r =>
    unfold Lib.hasPrefix
    simp only [List.isPrefixOf, List.isPrefixOf_nil_left, Bool.and_true, List.head?_cons]
    rw [Bool.eq_iff_iff, beq_iff_eq, beq_iff_eq, Option.some.injEq]
    exact ⟨fun h => h.symm, fun h => h.symm⟩
theorem suffix_one (l : List UInt8) (c : UInt8) : Lib.hasSuffix l [c] = (l.getLast? == some c) := by
  have := prefix_one l.reverse c
  unfold Lib.hasPrefix at this
  unfold Lib.hasSuffix List.isSuffixOf
  rw [List.head?_reverse] at this
  exact this
theorem c17 (s : ByteArray) (w : World) (b : Bool) (h : (s.data.toList.head? == some 91) = b) :
    Calls Tryd.prog 17 #[.string s, .string ⟨#[91]⟩] w fun e w' => e = .returned (.bool b) ∧ w' = w := by
  have := Any.strings_HasPrefix Tryd.lays99 s ⟨#[91]⟩ w
  rw [show (⟨#[91]⟩ : ByteArray).data.toList = [91] from rfl, prefix_one] at this
  rw [← h]; exact this
theorem c18 (s : ByteArray) (w : World) (b : Bool) (hs : s.size ≤ 9223372036854775807) (h : (s.data.toList.getLast? == some 93) = b) :
    Calls Tryd.prog 18 #[.string s, .string ⟨#[93]⟩] w fun e w' => e = .returned (.bool b) ∧ w' = w := by
  have := Any.strings_HasSuffix Tryd.lays100 s ⟨#[93]⟩ w hs
  rw [show (⟨#[93]⟩ : ByteArray).data.toList = [93] from rfl, suffix_one] at this
  rw [← h]; exact this
theorem c19 (p : ByteArray) (w : World) (hp : p.size ≤ 9223372036854775807) :
    Calls Tryd.prog 19 #[.string p, .string ⟨#[48, 49, 50, 51, 52, 53, 54, 55, 56, 57]⟩] w fun e w' => (∃ r : ByteArray, r.toList.isEmpty = !p.data.toList.any nd ∧ e = .returned (.string r)) ∧ Below w.heap.size w w' := by
  have := Any.strings_Trim_laid Tryd.lays160 (by kernel_rfl) p ⟨#[48, 49, 50, 51, 52, 53, 54, 55, 56, 57]⟩ w hp (by decide) (ascii_of_all (by decide))
  refine Calls.mono (show Calls Tryd.prog 19 _ _ _ from this) ?_
  rintro e w' ⟨rfl, hb⟩
  exact ⟨⟨_, (by rw [Lib.toList_data]; exact trim_empty p.data.toList), rfl⟩, hb⟩

set_option maxHeartbeats 1000000 in
theorem port14 (s : ByteArray) (w : World) (hs : s.size ≤ 2097152) (i : Nat) (hi : i < s.size) (hci : Lib.lastIndexByte s 58 = (i : Int)) :
    Calls Tryd.prog 14 #[.string s] w fun e w' => e = .returned (.bool (ans (s.data.toList.take i) (s.data.toList.drop (i + 1)))) ∧ Below w.heap.size w w' := by
  have k15 := c15 s w i (by omega) hci
  clear hci
  have HA : Hid (ans (s.data.toList.take i) (s.data.toList.drop (i + 1)) = ((!((s.data.toList.take i).contains 58) || ((s.data.toList.take i).head? == some 91 && (s.data.toList.take i).getLast? == some 93)) && (s.data.toList.drop (i + 1)).any nd)) := by unfold Hid; rfl
  have eh : (s.extract 0 i).data.toList = s.data.toList.take i := by rw [Lib.extract_data]; simp
  have ep : (s.extract (i + 1) s.size).data.toList = s.data.toList.drop (i + 1) := by
    rw [Lib.extract_data, List.take_of_length_le (by simp)]
  have hz : (s.extract 0 i).size = i := by simp; omega
  have hz2 : (s.extract (i + 1) s.size).size = s.size - (i + 1) := by simp
  have H1 := fun w b h => c16 (s.extract 0 i) w b (by rw [eh]; exact h)
  have H2 := fun w b h => c17 (s.extract 0 i) w b (by rw [eh]; exact h)
  have H3 := fun w b (h : ((s.data.toList.take i).getLast? == some 93) = b) => c18 (s.extract 0 i) w b (by omega) (by rw [eh]; exact h)
  have H4 := fun w => c19 (s.extract (i + 1) s.size) w (by omega)
  rw [ep] at H4
  clear eh
  have HP : Hid ((s.extract (i + 1) s.size).toList.isEmpty = (s.data.toList.drop (i + 1)).isEmpty) := by unfold Hid; rw [Lib.toList_data, ep]
  clear ep hz hz2
  generalize ht : s.data.toList.take i = t at *
  generalize hd : s.data.toList.drop (i + 1) = d at *
  clear ht hd
  have K1 := hide H1; have K2 := hide H2; have K3 := hide H3; have K4 := hide H4
  clear H1 H2 H3 H4
  go_enter Tryd.func14, Tryd.ntmps14
  go_wp2_with fail
  refine k15.mono ?_
  rintro e w' ⟨rfl, rfl⟩
  clear k15
  go_wp2_with fail
  go_quiet (fail)
  go_wp2_with fail
  refine (unhide K1 _ _ rfl).mono ?_
  rintro e w1 ⟨rfl, rfl⟩
  clear K1
  cases h1 : t.contains 58 with
  | false =>
    have HA' : Hid (ans t d = d.any nd) := by unfold Hid; rw [HA.out, h1]; simp
    clear HA h1
    clear K2
    cases hpe : d.isEmpty with
    | true =>
      have he : (s.extract (i + 1) s.size).toList.isEmpty = true := by rw [HP.out, hpe]
      have HF : Hid (ans t d = false) := by
        unfold Hid; rw [HA'.out]
        have : d = [] := by simpa using hpe
        rw [this]; rfl
      clear K3 K4 HA' HP hpe
      go_wp2
      go_ret
      exact ⟨ret_bool (by rw [HF.out]), below_drew _ _⟩
    | false =>
      have he : (s.extract (i + 1) s.size).toList.isEmpty = false := by rw [HP.out, hpe]
      clear K3 HP hpe
      go_wp2_with fail
      refine (unhide K4 _).mono ?_
      rintro e w1 ⟨⟨r, hr, rfl⟩, hb⟩
      have HR := hide hr
      clear hr K4
      have hb' : Below w'.heap.size w' w1 := (below_drew w' nq).trans hb
      clear hb
      cases hr2 : r.toList.isEmpty with
      | true =>
        have HF : Hid (ans t d = false) := by
          unfold Hid; have := unhide HR; rw [hr2] at this; rw [HA'.out]; simpa using this
        go_wp2
        go_ret
        exact ⟨ret_bool (by rw [HF.out]), hb'⟩
      | false =>
        have HF : Hid (ans t d = true) := by
          unfold Hid; have := unhide HR; rw [hr2] at this; rw [HA'.out]; simpa using this
        go_wp2
        go_ret
        exact ⟨ret_bool (by rw [HF.out]), hb'⟩
  | true =>
    go_wp2_with fail
    refine (unhide K2 _ _ rfl).mono ?_
    rintro e w1 ⟨rfl, rfl⟩
    clear K2
    cases h2 : (t.head? == some 91) with
    | false =>
      have HF : Hid (ans t d = false) := by unfold Hid; rw [HA.out, h1, h2]; simp
      clear HA h1 h2 K3 K4 HP
      go_wp2
      go_ret
      exact ⟨ret_bool (by rw [HF.out]), below_drew _ _⟩
    | true =>
      go_wp2_with fail
      refine (unhide K3 _ _ rfl).mono ?_
      rintro e w1 ⟨rfl, rfl⟩
      cases h3 : (t.getLast? == some 93) with
      | false =>
        have HF : Hid (ans t d = false) := by unfold Hid; rw [HA.out, h1, h2, h3]; simp
        clear HA h1 h2 h3 K3 K4 HP
        go_wp2
        go_ret
        exact ⟨ret_bool (by rw [HF.out]), below_drew _ _⟩
      | true =>
        have HA' : Hid (ans t d = d.any nd) := by unfold Hid; rw [HA.out, h1, h2, h3]; simp
        clear HA h1 h2 h3
        cases hpe : d.isEmpty with
        | true =>
          have he : (s.extract (i + 1) s.size).toList.isEmpty = true := by rw [HP.out, hpe]
          have HF : Hid (ans t d = false) := by
            unfold Hid; rw [HA'.out]
            have : d = [] := by simpa using hpe
            rw [this]; rfl
          clear K3 K4 HA' HP hpe
          go_wp2
          go_ret
          exact ⟨ret_bool (by rw [HF.out]), below_drew _ _⟩
        | false =>
          have he : (s.extract (i + 1) s.size).toList.isEmpty = false := by rw [HP.out, hpe]
          clear K3 HP hpe
          go_wp2_with fail
          refine (unhide K4 _).mono ?_
          rintro e w1 ⟨⟨r, hr, rfl⟩, hb⟩
          have HR := hide hr
          clear hr K4
          have hb' : Below w'.heap.size w' w1 := (below_drew w' nq).trans hb
          clear hb
          cases hr2 : r.toList.isEmpty with
          | true =>
            have HF : Hid (ans t d = false) := by
              unfold Hid; have := unhide HR; rw [hr2] at this; rw [HA'.out]; simpa using this
            go_wp2
            go_ret
            exact ⟨ret_bool (by rw [HF.out]), hb'⟩
          | false =>
            have HF : Hid (ans t d = true) := by
              unfold Hid; have := unhide HR; rw [hr2] at this; rw [HA'.out]; simpa using this
            go_wp2
            go_ret
            exact ⟨ret_bool (by rw [HF.out]), hb'⟩

set_option maxHeartbeats 1000000 in
theorem port14_none (s : ByteArray) (w : World) (hs : s.size ≤ 2097152) (hci : Lib.lastIndexByte s 58 = -1) :
    Calls Tryd.prog 14 #[.string s] w fun e w' => e = .returned (.bool false) ∧ Below w.heap.size w w' := by
  have k15 := c15 s w (-1) (by omega) hci
  clear hci
  go_enter Tryd.func14, Tryd.ntmps14
  go_wp2_with fail
  refine k15.mono ?_
  rintro e w' ⟨rfl, rfl⟩
  clear k15
  go_wp2
  go_ret
  exact ⟨rfl, Below.refl _ _⟩

/-- WHAT portIsNotANumber ANSWERS. -/
def portR (s : ByteArray) : Bool :=
  if Lib.lastIndexByte s 58 = -1 then false else ans (s.data.toList.take (Lib.lastIndexByte s 58).toNat) (s.data.toList.drop ((Lib.lastIndexByte s 58).toNat + 1))
theorem port14_any (s : ByteArray) (w : World) (hs : s.size ≤ 2097152) :
    Calls Tryd.prog 14 #[.string s] w fun e w' => e = .returned (.bool (portR s)) ∧ Below w.heap.size w w' := by
  rcases Lib.lastIndexByte_spec s 58 with ⟨h, _⟩ | ⟨i, hi, h, _, _⟩
  · have e : portR s = false := by unfold portR; rw [if_pos h]
    rw [e]; exact port14_none s w hs h
  · have e : portR s = ans (s.data.toList.take i) (s.data.toList.drop (i + 1)) := by
      unfold portR; rw [if_neg (by omega), h]; rfl
    rw [e]; exact port14 s w hs i hi h
set_option maxHeartbeats 1000000 in
theorem zz7 (s : ByteArray) (w : World) (hs : s.size ≤ 2097152) :
    Calls Tryd.prog 7 #[.string s] w fun e w' => e = .returned (.bool (portR s)) ∧ Below w.heap.size w w' := by
  have k := port14_any s w hs
  generalize portR s = b at k ⊢
  go_enter Tryd.func7, Tryd.ntmps7
  go_wp2_with fail
  refine k.mono ?_
  rintro e w' ⟨rfl, hb⟩
  go_wp2
  go_ret
  exact ⟨rfl, hb⟩
end Go.Proofs.Qxb6000054aDoor
