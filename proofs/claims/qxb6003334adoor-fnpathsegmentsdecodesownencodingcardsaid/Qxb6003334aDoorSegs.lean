import Derived.Test.Qxb6003334aDoorUn2
set_option linter.unusedSimpArgs false
set_option linter.unusedVariables false
namespace Go.Proofs.Qxb6003334aDoor
open Go.RowKit Go.Shelf Go.Proofs.Qxb6003334aDoor.Pl

set_option maxHeartbeats 1000000 in
theorem pu18_none (s : ByteArray) (w : World) (hs : s.size ≤ 16777216) (hT : HexTab w) (hR : scanE s.data.toList = none) :
    Calls Tryd.prog 18 #[.string s] w fun e w' => (∃ t : ByteArray, e = .returned (.tuple #[.string ⟨#[]⟩, .iface 52 (.string t)])) ∧ w' = w := by
  have k := un20_none s w hs hT hR
  clear hR hT
  go_enter Tryd.func18, Tryd.ntmps18
  go_wp2_with fail
  refine k.mono ?_
  rintro e w' ⟨⟨t, rfl⟩, rfl⟩
  go_wp2
  go_ret2
  exact ⟨⟨t, rfl⟩, rfl⟩
set_option maxHeartbeats 1000000 in
theorem pu18_some (s : ByteArray) (w : World) (hs : s.size ≤ 16777216) (hT : HexTab w) (n0 : Nat) (hR : scanE s.data.toList = some n0) :
    Calls Tryd.prog 18 #[.string s] w fun e w' => e = .returned (.tuple #[.string ⟨(unT s.data.toList).toArray⟩, .nilIface]) ∧ Below w.heap.size w w' := by
  have k := un20_some s w hs hT n0 hR
  generalize (⟨(unT s.data.toList).toArray⟩ : ByteArray) = r at k ⊢
  clear hR hT
  go_enter Tryd.func18, Tryd.ntmps18
  go_wp2_with fail
  refine k.mono ?_
  rintro e w' ⟨rfl, hb⟩
  go_wp2
  go_ret2
  exact ⟨rfl, hb⟩

theorem splitH_len : ∀ l : List UInt8, (splitH l).1.length ≤ l.length ∧ ∀ s ∈ (splitH l).2, s.length ≤ l.length
  | [] => ⟨Nat.le_refl _, fun s hs => by simp [splitH] at hs⟩
  | c :: r => by
    obtain ⟨h1, h2⟩ := splitH_len r
    by_cases h : c = 47
    · simp only [splitH, h, if_true]
      refine ⟨by simp, fun s hs => ?_⟩
      rcases List.mem_cons.1 hs with rfl | hs
      · simp only [List.length_cons]; omega
      · have := h2 s hs; simp only [List.length_cons]; omega
    · simp only [splitH, h, if_false]
      refine ⟨by simp only [List.length_cons]; omega, fun s hs => ?_⟩
      have := h2 s hs; simp only [List.length_cons]; omega
theorem split_mem_len (l s : List UInt8) (h : s ∈ splitL l) : s.length ≤ l.length := by
  obtain ⟨h1, h2⟩ := splitH_len l
  rcases List.mem_cons.1 h with rfl | h
  · exact h1
  · exact h2 s h

/-- The pieces of a text, as strings.Split lays them. -/
def pieces (s : ByteArray) : List ByteArray := Lib.splitB ⟨#[47]⟩ 0 (Lib.countB s ⟨#[47]⟩) s
theorem pieces_map (s : ByteArray) : (pieces s).map (·.data.toList) = splitL s.data.toList := by
  unfold pieces
  rw [Lib.splitB_data]
  have : Lib.countB s ⟨#[47]⟩ = s.data.toList.count 47 := Lib.count_one 47 s.data.toList
  rw [this]
  exact splitK_is s.data.toList
theorem pieces_len (s : ByteArray) : (pieces s).length = Lib.countB s ⟨#[47]⟩ + 1 := Lib.splitB_all ⟨#[47]⟩ (by decide) 0 _ s rfl
theorem pieces_len' (s : ByteArray) : (pieces s).length = s.data.toList.count 47 + 1 := by
  have := congrArg List.length (pieces_map s)
  rw [List.length_map, split_len] at this
  exact this
theorem piece_mem (s p : ByteArray) (h : p ∈ pieces s) : p.data.toList ∈ splitL s.data.toList := by
  rw [← pieces_map]; exact List.mem_map_of_mem h
theorem piece_size (s p : ByteArray) (h : p ∈ pieces s) : p.size ≤ s.size := by
  have := split_mem_len _ _ (piece_mem s p h)
  simpa using this

theorem c17 (s : ByteArray) (m : Int) (w : World) (hs : s.size < 4294967281) (hm : w.cell? ⟨1, 0, none⟩ = some (.int .i64 m)) :
    Calls Tryd.prog 17 #[.string s, .string ⟨#[47]⟩] w fun e w' => e = .returned (.slice (some ⟨w.heap.size, 0, none⟩) (pieces s).length (pieces s).length) ∧ w' = w.alloc (.cells ((pieces s).map Value.string).toArray 9) := by
  have := Any.strings_Split Tryd.lays146 (by kernel_rfl) s ⟨#[47]⟩ m w hs hm (by decide)
  rw [pieces_len]
  exact this
theorem prefix_one (l : List UInt8) (c : UInt8) : Lib.hasPrefix l [c] = (l.head? == some c) := by
  cases l with
  | nil => rfl
  | cons a r =>
    unfold Lib.hasPrefix
    simp only [List.isPrefixOf, List.isPrefixOf_nil_left, Bool.and_true, List.head?_cons]
    rw [Bool.eq_iff_iff, beq_iff_eq, beq_iff_eq, Option.some.injEq]
    exact ⟨fun h => h.symm, fun h => h.symm⟩
theorem c16 (s : ByteArray) (w : World) (b : Bool) (h : (s.data.toList.head? == some 47) = b) :
    Calls Tryd.prog 16 #[.string s, .string ⟨#[47]⟩] w fun e w' => e = .returned (.bool b) ∧ w' = w := by
  have := Any.strings_HasPrefix Tryd.lays99 s ⟨#[47]⟩ w
  rw [show (⟨#[47]⟩ : ByteArray).data.toList = [47] from rfl, prefix_one] at this
  rw [← h]; exact this

theorem owns_below {w w' : World} {base e size g n cap : Nat} {xs : List Value} (h : w.ownsRow base e size (.slice (some ⟨g, 0, none⟩) n cap) n xs) (hb : Below w.heap.size w w') :
    w'.ownsRow base e size (.slice (some ⟨g, 0, none⟩) n cap) n xs := by
  rcases h.2 with ⟨h', _⟩ | ⟨g', cap', cur, h', h1, hg, h2, h3, h4, h5⟩
  · simp at h'
  · refine ⟨h.1, .inr ⟨g', cap', cur, h', h1, ?_, h2, h3, h4, h5⟩⟩
    have hlt : g' < w.heap.size := by
      rcases Nat.lt_or_ge g' w.heap.size with h | h
      · exact h
      · simp [Array.getElem?_eq_none h] at hg
    rw [hb.block g' hlt]; exact hg

set_option maxHeartbeats 1000000 in
/-- A path that opens with no '/'. -/
theorem seg13_no (u : Nat) (raw : ByteArray) (w : World) (h0 : 0 < raw.size) (hu : w.cell? ⟨u, 7, none⟩ = some (.string raw)) (hp : (raw.data.toList.head? == some 47) = false) :
    Calls Tryd.prog 13 #[.pointer (some ⟨u, 0, none⟩)] w fun e w' => e = .returned (.tuple #[.slice none 0 0, .bool false]) ∧ w' = w := by
  have k16 := fun w => c16 raw w _ hp
  have hne : raw.toList.isEmpty = false := by
    rw [Lib.toList_data]
    cases h : raw.data.toList with
    | nil => have := Lib.size_eq raw; rw [h, List.length_nil] at this; omega
    | cons _ _ => rfl
  clear hp
  go_enter Tryd.func13, Tryd.ntmps13
  go_wp2_with fail
  refine (k16 _).mono ?_
  rintro e w' ⟨rfl, rfl⟩
  go_wp2
  go_ret2
  exact ⟨rfl, rfl⟩

/-- What the j-th piece comes to. -/
def outOf (p : ByteArray) : ByteArray := ⟨(unT p.data.toList).toArray⟩
set_option maxHeartbeats 2000000 in
/-- A path that opens with '/': its pieces, unescaped one by one. -/
theorem seg13_yes (u : Nat) (raw s : ByteArray) (w : World) (h0 : 0 < raw.size) (hs : raw.size ≤ 16777216) (hsr : raw.extract 1 raw.size = s) (hu : w.cell? ⟨u, 7, none⟩ = some (.string raw)) (hp : (raw.data.toList.head? == some 47) = true)
    (hT : HexTab w) (mx : Int) (hM : w.cell? ⟨1, 0, none⟩ = some (.int .i64 mx)) :
    Calls Tryd.prog 13 #[.pointer (some ⟨u, 0, none⟩)] w fun e w' => Below w.heap.size w w' ∧
      ((e = .returned (.tuple #[.slice (some ⟨w.heap.size, 0, none⟩) (pieces s).length (pieces s).length, .bool true]) ∧ (∀ p ∈ pieces s, (scanE p.data.toList).isSome = true) ∧
          (∀ j, j < (pieces s).length → w'.cell? ⟨w.heap.size, j, none⟩ = some (.string (outOf ((pieces s).getD j ByteArray.empty)))) ∧ w.heap.size < w'.heap.size) ∨
       (e = .returned (.tuple #[.slice none 0 0, .bool false]) ∧ ∃ p ∈ pieces s, scanE p.data.toList = none)) := by
  have k16 := fun w => c16 raw w _ hp
  have hne : raw.toList.isEmpty = false := by
    rw [Lib.toList_data]
    cases h : raw.data.toList with
    | nil => have := Lib.size_eq raw; rw [h, List.length_nil] at this; omega
    | cons _ _ => rfl
  have hss : s.size = raw.size - 1 := by rw [← hsr]; simp
  have k17 := c17 s mx w (by omega) hM
  have hpl : (pieces s).length ≤ 16777216 := by
    rw [pieces_len']; have := List.count_le_length (a := (47 : UInt8)) (l := s.data.toList); have e : s.data.toList.length = s.size := by simp
    omega
  have hps := fun p hp => piece_size s p hp
  have HP := hide hps
  clear hps
  generalize pieces s = ps at *
  have hr1 : (1 : Int) ≤ raw.size := by omega
  have HT := hide hT
  clear hp hT
  go_enter Tryd.func13, Tryd.ntmps13
  go_wp2_with fail
  refine (k16 _).mono ?_
  rintro e w' ⟨rfl, rfl⟩
  go_wp2_with fail
  refine k17.mono ?_
  rintro e w1 ⟨rfl, hw1⟩
  subst hw1
  clear k16 k17 hsr hr1
  have hT1 := HexTab.below (unhide HT) ((Below.refl _ _).alloc (Nat.le_refl _) (.cells (ps.map Value.string).toArray 9))
  have hown0 := World.ownsRow_lit (base := w'.heap.size) (e := 9) (size := 1) w' (ps.map Value.string).toArray ps.length (Nat.le_refl _) (by unfold maxLen; omega) (by simp)
  have hbel0 : Below w'.heap.size w' (w'.alloc (.cells (ps.map Value.string).toArray 9)) := (Below.refl _ _).alloc (Nat.le_refl _) _
  have HO := hide hown0
  have HB0 := hide hbel0
  have HT1 := hide hT1
  clear hown0 hbel0 hT1
  generalize hW1 : w'.alloc (.cells (ps.map Value.string).toArray 9) = W1 at *
  have hsz1 : w'.heap.size < W1.heap.size := by rw [← hW1]; simp
  clear hW1
  go_wp2
  go_loopw [26] (fun i wr => ∃ k : Nat, ∃ xs : List Value, i = .int .i64 k ∧ k ≤ ps.length ∧ Hid (wr.ownsRow w'.heap.size 9 1 (.slice (some ⟨w'.heap.size, 0, none⟩) ps.length ps.length) ps.length xs) ∧
      Hid (∀ j, j < k → xs[j]? = some (.string (outOf (ps.getD j ByteArray.empty)))) ∧ Hid (∀ j, k ≤ j → j < ps.length → xs[j]? = some (.string (ps.getD j ByteArray.empty))) ∧
      Hid (∀ j, j < k → (scanE (ps.getD j ByteArray.empty).data.toList).isSome = true) ∧ Hid (HexTab wr) ∧ w'.heap.size < wr.heap.size ∧ Below w'.heap.size w' wr) (fun i _ => ps.length - (intOf i).toNat)
  case atStart =>
    refine ⟨0, _, rfl, Nat.zero_le _, unhide HO, fun j hj => by omega, fun j _ hj => ?_, fun j hj => by omega, unhide HT1, hsz1, unhide HB0⟩
    simp [List.getD, List.getElem?_eq_getElem hj]
  case round =>
    clear HO HB0 HT1 hsz1
    obtain ⟨k, xs, rfl, hk, HO, H1, H2, H3, HT1, hsz, hbel⟩ := hrel
    by_cases hlt : k < ps.length
    · have hltz : (k : Int) < ps.length := by omega
      obtain ⟨p, hpe⟩ : ∃ p, ps.getD k ByteArray.empty = p := ⟨_, rfl⟩
      have hpm : p ∈ ps := by
        rw [← hpe, List.getD, List.getElem?_eq_getElem hlt]; exact List.getElem_mem _
      have hpsz := unhide HP p hpm
      have hcx : wr.cell? ⟨w'.heap.size, k, none⟩ = some (.string p) := by
        rw [(unhide HO).cellAt k (by omega), unhide H2 k (Nat.le_refl _) hlt, hpe]
      have HPE := hide hpe
      have HPM := hide hpm
      clear hpe hpm
      cases hsc : scanE p.data.toList with
      | none =>
        have k18 := pu18_none p wr (by omega) (unhide HT1) hsc
        have HSC := hide hsc
        clear hsc
        go_wp2_with fail
        refine k18.mono ?_
        rintro e w2 ⟨⟨t, rfl⟩, rfl⟩
        go_wp2
        go_ret2
        exact ⟨hbel, .inr ⟨rfl, p, unhide HPM, unhide HSC⟩⟩
      | some n0 =>
        have k18 := pu18_some p wr (by omega) (unhide HT1) n0 hsc
        have HSC := hide hsc
        have ho : Hid (outOf p = ⟨(unT p.data.toList).toArray⟩) := by unfold Hid; rfl
        clear hsc
        generalize (⟨(unT p.data.toList).toArray⟩ : ByteArray) = r at *
        go_wp2_with fail
        refine k18.mono ?_
        rintro e w2 ⟨rfl, hb2⟩
        clear k18
        have hO2 := owns_below (unhide HO) hb2
        have hxl : xs.length = ps.length := by have := hO2.1; omega
        have hT2 := HexTab.below (unhide HT1) hb2
        have hsz2 : w'.heap.size < w2.heap.size := by have := hb2.size; omega
        have hcell2 : w2.cell? ⟨w'.heap.size, k, none⟩ = some (.string p) := (hb2.cell (p := ⟨w'.heap.size, k, none⟩) hsz).trans hcx
        have hfr2 : w2.frozen? ⟨w'.heap.size, k, none⟩ = false := hO2.frozenAt k
        have hbel2 : Below w'.heap.size w' w2 := hbel.trans (hb2.mono (by omega))
        obtain ⟨hO3, _⟩ := hO2.stored k (.string r)
        have hbel3 := hbel2.setCell (p := ⟨w'.heap.size, k, none⟩) (Nat.le_refl _) (.string r)
        have hT3 : HexTab (w2.setCell ⟨w'.heap.size, k, none⟩ (.string r)) := (unhide HT).below hbel3
        have HO3 := hide hO3
        have HT3 := hide hT3
        have HX := hide hxl
        clear hO2 hO3 hT2 hT3 hxl hbel2 hb2 HO HT1
        go_wp2
        go_roundw
        case rel =>
          refine ⟨k + 1, _, by go_num, by omega, unhide HO3, fun j hj => ?_, fun j hj1 hj2 => ?_, fun j hj => ?_, unhide HT3, by simp; omega, hbel3⟩
          · by_cases e : j = k
            · subst e; rw [List.getElem?_set_self (by rw [unhide HX]; exact hlt), unhide HPE, unhide ho]
            · rw [List.getElem?_set_ne (by omega)]; exact unhide H1 j (by omega)
          · rw [List.getElem?_set_ne (by omega)]; exact unhide H2 j (by omega) hj2
          · by_cases e : j = k
            · subst e; rw [unhide HPE, unhide HSC]; rfl
            · exact unhide H3 j (by omega)
        case measure => simp [intOf]; omega
    · obtain rfl : k = ps.length := by omega
      have hltz : ¬ (ps.length : Int) < ps.length := by omega
      go_wp2
      go_ret2
      refine ⟨hbel, .inl ⟨rfl, fun p hp => ?_, fun j hj => ?_, hsz⟩⟩
      · obtain ⟨j, hj, e⟩ := List.mem_iff_getElem.1 hp
        have := unhide H3 j hj
        rw [List.getD, List.getElem?_eq_getElem hj] at this
        rw [← e]; exact this
      · rw [(unhide HO).cellAt j (by omega)]; exact unhide H1 j hj

set_option maxHeartbeats 1000000 in
theorem zz8_no (u : Nat) (raw : ByteArray) (w : World) (h0 : 0 < raw.size) (hu : w.cell? ⟨u, 7, none⟩ = some (.string raw)) (hp : (raw.data.toList.head? == some 47) = false) :
    Calls Tryd.prog 8 #[.pointer (some ⟨u, 0, none⟩)] w fun e w' => e = .returned (.tuple #[.slice none 0 0, .bool false]) ∧ w' = w := by
  have k := seg13_no u raw w h0 hu hp
  clear hu hp
  go_enter Tryd.func8, Tryd.ntmps8
  go_wp2_with fail
  refine k.mono ?_
  rintro e w' ⟨rfl, rfl⟩
  go_wp2
  go_ret2
  exact ⟨rfl, rfl⟩
set_option maxHeartbeats 1000000 in
theorem zz8_yes (u : Nat) (raw s : ByteArray) (w : World) (h0 : 0 < raw.size) (hs : raw.size ≤ 16777216) (hsr : raw.extract 1 raw.size = s) (hu : w.cell? ⟨u, 7, none⟩ = some (.string raw)) (hp : (raw.data.toList.head? == some 47) = true)
    (hT : HexTab w) (mx : Int) (hM : w.cell? ⟨1, 0, none⟩ = some (.int .i64 mx)) :
    Calls Tryd.prog 8 #[.pointer (some ⟨u, 0, none⟩)] w fun e w' => Below w.heap.size w w' ∧
      ((e = .returned (.tuple #[.slice (some ⟨w.heap.size, 0, none⟩) (pieces s).length (pieces s).length, .bool true]) ∧ (∀ p ∈ pieces s, (scanE p.data.toList).isSome = true) ∧
          (∀ j, j < (pieces s).length → w'.cell? ⟨w.heap.size, j, none⟩ = some (.string (outOf ((pieces s).getD j ByteArray.empty)))) ∧ w.heap.size < w'.heap.size) ∨
       (e = .returned (.tuple #[.slice none 0 0, .bool false]) ∧ ∃ p ∈ pieces s, scanE p.data.toList = none)) := by
  have k := seg13_yes u raw s w h0 hs hsr hu hp hT mx hM
  clear hu hp hT hM hsr
  generalize pieces s = ps at *
  go_enter Tryd.func8, Tryd.ntmps8
  go_wp2_with fail
  refine k.mono ?_
  clear k
  rintro e w' ⟨hb, ⟨rfl, h1, h2, h3⟩ | ⟨rfl, h1⟩⟩
  · have H1 := hide h1
    have H2 := hide h2
    clear h1 h2
    go_wp2
    go_ret2
    exact ⟨hb, .inl ⟨rfl, unhide H1, unhide H2, h3⟩⟩
  · have H1 := hide h1
    clear h1
    go_wp2
    go_ret2
    exact ⟨hb, .inr ⟨rfl, unhide H1⟩⟩
end Go.Proofs.Qxb6003334aDoor
