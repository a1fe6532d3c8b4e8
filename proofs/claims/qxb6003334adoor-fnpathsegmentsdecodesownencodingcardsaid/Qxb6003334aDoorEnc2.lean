import Derived.Test.Qxb6003334aDoorEnc
set_option linter.unusedSimpArgs false
set_option linter.unusedVariables false
namespace Go.Proofs.Qxb6003334aDoor
open Go.RowKit Go.Proofs.Qxb6003334aDoor.Pl

/-- What the encoder has written behind i strings. -/
def pre (ss : Nat → ByteArray) : Nat → List UInt8
  | 0 => [47]
  | i + 1 => (pre ss i ++ (if 0 < i then [47] else [])) ++ encS (ss i).data.toList
def tot (ss : Nat → ByteArray) : Nat → Nat
  | 0 => 0
  | i + 1 => tot ss i + (1 + 3 * (ss i).size)
theorem tot_mono (ss : Nat → ByteArray) (i : Nat) : ∀ d, tot ss i ≤ tot ss (i + d)
  | 0 => Nat.le_refl _
  | d + 1 => by have := tot_mono ss i d; show _ ≤ tot ss (i + d) + _; omega
theorem tot_le (ss : Nat → ByteArray) (i n : Nat) (h : i ≤ n) : tot ss i ≤ tot ss n := by
  have := tot_mono ss i (n - i)
  rwa [show i + (n - i) = n by omega] at this
theorem pre_len (ss : Nat → ByteArray) : ∀ i, (pre ss i).length ≤ 1 + tot ss i
  | 0 => by simp [pre, tot]
  | i + 1 => by
    have ih := pre_len ss i
    have he := encS_len (ss i).data.toList
    have hl : (ss i).data.toList.length = (ss i).size := by simp
    have hs : (if 0 < i then ([47] : List UInt8) else []).length ≤ 1 := by split <;> simp
    simp only [pre, tot, List.length_append]
    omega
theorem enc_snoc (s : ByteArray) (j : Nat) (h : j < s.size) : encS (s.data.toList.take (j + 1)) = encS (s.data.toList.take j) ++ encB s[j] := by
  have hl : j < s.data.toList.length := by simpa using h
  rw [List.take_succ_eq_append_getElem hl]
  unfold encS
  rw [List.flatMap_append]
  simp
  rfl
theorem enc_end (s : ByteArray) : encS (s.data.toList.take s.size) = encS s.data.toList := by rw [List.take_of_length_le (by simp)]
theorem enc_take_len (s : ByteArray) (j : Nat) (h : j ≤ s.size) : (encS (s.data.toList.take j)).length ≤ 3 * s.size := by
  have h1 := encS_len (s.data.toList.take j)
  have h2 : (s.data.toList.take j).length ≤ j := List.length_take_le _ _
  omega
theorem cells_app (l m : List UInt8) : Lib.byteCells (l ++ m) = Lib.byteCells l ++ Lib.byteCells m := by simp [Lib.byteCells]
theorem cells_length (l : List UInt8) : (Lib.byteCells l).length = l.length := by simp [Lib.byteCells]
/-- The slice v owns the bytes D. -/
def Owns (base : Nat) (v : Value) (D : List UInt8) (w : World) : Prop := w.ownsRow base 5 1 v D.length (Lib.byteCells D)
theorem Owns.app {base : Nat} {v : Value} {D m : List UInt8} {w : World} (h : w.ownsRow base 5 1 v (D.length + m.length) (Lib.byteCells D ++ Lib.byteCells m)) : Owns base v (D ++ m) w := by
  unfold Owns
  rw [List.length_append, cells_app]; exact h
theorem own_ge {w : World} {base e size n : Nat} {v : Value} {xs : List Value} {k : Nat} (h : w.ownsRow base e size v n xs) (hk : v.ownBlock = some k) : base ≤ k := by
  rcases h.2 with ⟨rfl, _⟩ | ⟨g, cap, cur, rfl, hb, _⟩
  · simp [Value.ownBlock] at hk
  · simp [Value.ownBlock] at hk; omega
theorem three_new (w : World) (a b c : Value) (t : TypeId) : ∀ j u, [a, b, c][j]? = some u → (w.alloc (.cells #[a, b, c] t)).cell? ((⟨w.heap.size, 0, none⟩ : Addr).add j) = some u := by
  intro j u hj
  match j, hj with
  | 0, hj => simp at hj; subst hj; simp [Addr.add]
  | 1, hj => simp at hj; subst hj; simp [Addr.add]
  | 2, hj => simp at hj; subst hj; simp [Addr.add]
theorem pre_pos (ss : Nat → ByteArray) : ∀ i, 0 < (pre ss i).length
  | 0 => by simp [pre]
  | i + 1 => by have := pre_pos ss i; simp only [pre, List.length_append]; omega
theorem owns_form {w : World} {base e n : Nat} {v : Value} {xs : List Value} (h : w.ownsRow base e 1 v n xs) (hn : 0 < n) : ∃ g cap, v = .slice (some ⟨g, 0, none⟩) n cap := by
  rcases h.2 with ⟨_, h0⟩ | ⟨g, cap, cur, hv, _⟩
  · omega
  · exact ⟨g, cap, hv⟩
/-- 'string(b)', b the call's own bytes. -/
theorem conv_own (w : World) {base : Nat} (g cap : Nat) (D : List UInt8) (h : w.ownsRow base 5 1 (.slice (some ⟨g, 0, none⟩) D.length cap) D.length (Lib.byteCells D)) :
    (convert 35 9 (.slice (some ⟨g, 0, none⟩) D.length cap)).run Tryd.prog w = .ok (.string ⟨D.toArray⟩) w :=
  run_convert_bytes_back w 35 9 5 ⟨g, 0, none⟩ cap D Tryd.underlying35 Tryd.underlying5 Tryd.underlying9 (fun j hj => by
    have e : (⟨g, 0, none⟩ : Addr).add j = ⟨g, j, none⟩ := by simp [Addr.add]; omega
    rw [e, h.cellAt j (by omega)]
    simp [Lib.byteCells, List.getElem?_eq_getElem hj])
theorem hexHi (c : UInt8) (w : World) : Calls Tryd.prog 12 #[.int .u8 ((c.toNat : Int) / 16)] w fun e w' => e = .returned (.int .u8 (hexU (c.toNat / 16)).toNat) ∧ w' = w := by
  have hc := UInt8.toNat_lt c
  have e : ((hexU (c.toNat / 16)).toNat : Int) = hexI ((c.toNat : Int) / 16) := by rw [hexI_is _ (by omega)]; simp
  rw [e]
  exact hexUp12 _ w (by omega) (by omega)
theorem hexLo (c : UInt8) (w : World) : Calls Tryd.prog 12 #[.int .u8 ((c.toNat : Int) % 16)] w fun e w' => e = .returned (.int .u8 (hexU (c.toNat % 16)).toNat) ∧ w' = w := by
  have hc := UInt8.toNat_lt c
  have e : ((hexU (c.toNat % 16)).toNat : Int) = hexI ((c.toNat : Int) % 16) := by rw [hexI_is _ (by omega)]; simp
  rw [e]
  exact hexUp12 _ w (by omega) (by omega)
theorem owns_cast {b : Nat} {v : Value} {D D' : List UInt8} {w : World} (h : Owns b v D w) (e : D = D') : Owns b v D' w := e ▸ h
theorem ret_str {a b : ByteArray} (h : a = b) : Ending.returned (.string a) = .returned (.string b) := by rw [h]
theorem info5 : (Tryd.prog.info? 5).map (fun i => (i.zero, i.size, i.bytes)) = some (some (.int .u8 0), 1, 1) := by kernel_rfl

set_option maxHeartbeats 4000000 in
set_option maxRecDepth 100000 in
theorem encode7 (g n : Nat) (ss : Nat → ByteArray) (w : World) (hn : n ≤ 65536) (h0 : 0 < n) (htot : tot ss n ≤ 4194304) (hc : LiesS w g n ss) :
    Calls Tryd.prog 7 #[.slice (some ⟨g, 0, none⟩) n n] w fun e w' => e = .returned (.string ⟨(pre ss n).toArray⟩) ∧ Below w.heap.size w w' := by
  obtain ⟨i0, hi, hz0, hz1, hz2⟩ := info_parts info5
  have hgw : g < w.heap.size := World.block_lt_of_cell? _ _ (hc 0 h0)
  have HC := hide hc
  clear hc
  go_enter Tryd.func7, Tryd.ntmps7
  go_wp2
  go_loop [3, 4] (fun z i => ∃ k : Nat, i = .int .i64 k ∧ k ≤ n ∧ z = .int .i64 (1 + tot ss k : Nat)) (fun _ i => n - (intOf i).toNat)
  case atStart => exact ⟨0, rfl, Nat.zero_le _, rfl⟩
  case round =>
    obtain ⟨k, rfl, hk, rfl⟩ := hrel
    have htk := tot_le ss k n hk
    by_cases hlt : k < n
    · have hcx := unhide HC k hlt
      have htk1 := tot_le ss (k + 1) n hlt
      have HT1 : Hid (tot ss (k + 1) = tot ss k + (1 + 3 * (ss k).size)) := by unfold Hid; rfl
      have hsz : (ss k).size ≤ 4194304 := by have := unhide HT1; omega
      clear htk1
      generalize ss k = s at *
      go_wp2
      go_round
      case rel => exact ⟨k + 1, by go_num, by omega, by rw [unhide HT1]; go_num⟩
      case measure => simp [intOf]; omega
    · obtain rfl : k = n := by omega
      have hltz : ¬ (k : Int) < k := by omega
      go_wp2_with (first | (at_make; refine wpList_make_own _ rfl _ _ 35 rfl w.heap.size 5 i0 (.int .u8 0) 1 Tryd.underlying35 hi hz0 hz1 .i64 .i64 _ (1 + tot ss k) rfl rfl (by omega) ?b2 ?b3 ?b4 ?_))
      case b2 => first | omega | (rw [hz2]; omega)
      case b3 => unfold maxLen; omega
      intro w1 hown hgrow
      have hb1 : Below w.heap.size w w1 := (Below.refl _ _).grown hgrow (Nat.le_refl _) (fun k hk => by cases hk)
      have hs1 := hgrow.size
      clear hgrow
      go_wp2_with (first | (at_builtin; refine wpList_append_own _ rfl _ _ 35 rfl w.heap.size 5 i0 (.int .u8 0) 1 1 Tryd.underlying35 hi hz0 hz1 hz2 rfl (by decide) _ _ _ rfl (hown.alloc _) ⟨w1.heap.size, 0, none⟩ 1 1 [.int .u8 47] rfl rfl ?c1 ?c2 ?c3 ?c4 ?c5 ?_))
      case c1 => exact cell_one_new _ _ _
      case c2 => intro u hu; simp at hu; subst hu; rfl
      case c3 => unfold maxLen; omega
      case c4 => omega
      case c5 => simp; omega
      intro v2 w2 hown2 hgrow2 _
      have HO2 : Hid (Owns w.heap.size v2 (pre ss 0) w2) := hown2
      have hb2 : Below w.heap.size w w2 := (hb1.trans ((Below.refl _ _).alloc hs1 _)).grown hgrow2 (by simp; omega) (fun k hk => by simp [Value.ownBlock] at hk; omega)
      clear hown hown2 hgrow2 hb1 hs1
      go_wp2
      go_loopw [5, 6] (fun v i wr => ∃ q : Nat, i = .int .i64 q ∧ q ≤ k ∧ Hid (Owns w.heap.size v (pre ss q) wr) ∧ Below w.heap.size w wr) (fun _ i _ => k - (intOf i).toNat)
      case atStart => exact ⟨0, rfl, Nat.zero_le _, unhide HO2, hb2⟩
      case round =>
        clear HO2 hb2 hltz
        obtain ⟨q, rfl, hq, HO, hbel⟩ := hrel
        have hpl := pre_len ss q
        have htq := tot_le ss q k hq
        by_cases hlt : q < k
        · have hltz : (q : Int) < k := by omega
          have htq1 := tot_le ss (q + 1) k hlt
          have hcq : wr.cell? ⟨g, q, none⟩ = some (.string (ss q)) := (hbel.cell (p := ⟨g, q, none⟩) hgw).trans (unhide HC q hlt)
          rcases Nat.eq_zero_or_pos q with hq0 | hq0
          · have hqz : ¬ (0 : Int) < q := by omega
            have HQ := hide hq0
            clear hq0
            generalize hP : pre ss q = D00 at *
            have HP := hide hP
            clear hP
            obtain ⟨s, hse⟩ : ∃ s, ss q = s := ⟨_, rfl⟩
            rw [hse] at hcq
            have HSE := hide hse
            have HT1 : Hid (tot ss (q + 1) = tot ss q + (1 + 3 * (ss q).size)) := by unfold Hid; rfl
            have hsz : 3 * s.size + tot ss q + 1 ≤ 4194304 := by have := unhide HT1; rw [hse] at this; omega
            clear hse HT1 htq1
            go_wp2
            go_loopw [5, 8] (fun v j wr => ∃ p : Nat, j = .int .i64 p ∧ p ≤ s.size ∧ Hid (Owns w.heap.size v (D00 ++ encS (s.data.toList.take p)) wr) ∧ Below w.heap.size w wr) (fun _ j _ => s.size - (intOf j).toNat)
            case atStart => exact ⟨0, rfl, Nat.zero_le _, by unfold Hid; simpa [encS] using unhide HO, hbel⟩
            case round =>
              clear HO hbel hcq
              obtain ⟨p, rfl, hp, HO, hbel⟩ := hrel
              have hel := enc_take_len s p hp
              have hDl : (D00 ++ encS (s.data.toList.take p)).length ≤ 4194306 := by rw [List.length_append]; omega
              clear hel
              by_cases hplt : p < s.size
              · have hpz : (p : Int) < s.size := by omega
                have HES := hide (enc_snoc s p hplt)
                have k11 := fun w => unres11 s[p] w
                have ka := fun w => hexHi s[p] w
                have kb := fun w => hexLo s[p] w
                have hcb := UInt8.toNat_lt s[p]
                have HEB : Hid (encB s[p] = if unres s[p] = true then [s[p]] else [37, hexU (s[p].toNat / 16), hexU (s[p].toNat % 16)]) := by unfold Hid; rfl
                generalize hGD : D00 ++ encS (s.data.toList.take p) = D at *
                have HGD := hide hGD
                clear hGD
                have ho : wr.ownsRow w.heap.size 5 1 _ D.length (Lib.byteCells D) := unhide HO
                have hws := hbel.size
                cases hu : unres s[p] with
                | true =>
                  rw [hu] at k11
                  have HEB' : Hid (encB s[p] = [s[p]]) := by unfold Hid; rw [unhide HEB, if_pos hu]
                  clear HEB hu ka kb HO
                  go_wp2_with (first | (go_at_call 11; refine (k11 _).mono ?_; rintro e w3 ⟨rfl, hw3⟩; rw [hw3]) | (at_builtin; refine wpList_append_own _ rfl _ _ 35 rfl w.heap.size 5 i0 (.int .u8 0) 1 1 Tryd.underlying35 hi hz0 hz1 hz2 rfl (by decide) _ _ _ rfl (ho.alloc _) ⟨wr.heap.size, 0, none⟩ 1 1 [.int .u8 s[p].toNat] rfl rfl ?d1A ?d2A ?d3A ?d4A ?d5A ?_))
                  case d1A => exact cell_one_new _ _ _
                  case d2A => intro u hu; simp at hu; subst hu; rfl
                  case d3A => unfold maxLen; omega
                  case d4A => omega
                  case d5A => simp; omega
                  intro v5 w5 hown5 hgrow5 _
                  have HO5 : Hid (Owns w.heap.size v5 (D00 ++ encS (s.data.toList.take (p + 1))) w5) := by
                    unfold Hid
                    rw [unhide HES, unhide HEB', ← List.append_assoc, unhide HGD]
                    exact Owns.app (m := [s[p]]) hown5
                  have hbel5 : Below w.heap.size w w5 := (hbel.trans ((Below.refl _ _).alloc hws _)).grown hgrow5 (by simp; omega) (fun k hk => own_ge ho hk)
                  clear hown5 hgrow5 ho
                  go_wp2
                  go_roundw
                  case rel => exact ⟨p + 1, by go_num, by omega, unhide HO5, hbel5⟩
                  case measure => simp [intOf]; omega
                | false =>
                  rw [hu] at k11
                  have HEB' : Hid (encB s[p] = [37, hexU (s[p].toNat / 16), hexU (s[p].toNat % 16)]) := by unfold Hid; rw [unhide HEB, if_neg (by rw [hu]; simp)]
                  obtain ⟨hx, hhx⟩ : ∃ x, hexU (s[p].toNat / 16) = x := ⟨_, rfl⟩
                  obtain ⟨lx, hlx⟩ : ∃ x, hexU (s[p].toNat % 16) = x := ⟨_, rfl⟩
                  rw [hhx, hlx] at HEB'
                  rw [hhx] at ka
                  rw [hlx] at kb
                  clear HEB hu HO hhx hlx
                  go_wp2_with fail
                  refine (k11 _).mono ?_
                  rintro e w3 ⟨rfl, rfl⟩
                  go_wp2_with fail
                  refine (ka _).mono ?_
                  rintro e w3 ⟨rfl, rfl⟩
                  go_wp2_with fail
                  refine (kb _).mono ?_
                  rintro e w3 ⟨rfl, rfl⟩
                  clear k11 ka kb
                  go_wp2_with (first | (at_builtin; refine wpList_append_own _ rfl _ _ 35 rfl w.heap.size 5 i0 (.int .u8 0) 1 1 Tryd.underlying35 hi hz0 hz1 hz2 rfl (by decide) _ _ _ rfl (ho.alloc _) ⟨w3.heap.size, 0, none⟩ 3 3 [.int .u8 37, .int .u8 hx.toNat, .int .u8 lx.toNat] rfl rfl ?e1A ?e2A ?e3A ?e4A ?e5A ?_))
                  case e1A => exact three_new _ _ _ _ _
                  case e2A => intro u hu; simp at hu; rcases hu with rfl | rfl | rfl <;> rfl
                  case e3A => unfold maxLen; omega
                  case e4A => omega
                  case e5A => simp; omega
                  intro v5 w5 hown5 hgrow5 _
                  have HO5 : Hid (Owns w.heap.size v5 (D00 ++ encS (s.data.toList.take (p + 1))) w5) := by
                    unfold Hid
                    rw [unhide HES, unhide HEB', ← List.append_assoc, unhide HGD]
                    exact Owns.app (m := [37, hx, lx]) hown5
                  have hbel5 : Below w.heap.size w w5 := (hbel.trans ((Below.refl _ _).alloc hws _)).grown hgrow5 (by simp; omega) (fun k hk => own_ge ho hk)
                  clear hown5 hgrow5 ho
                  go_wp2
                  go_roundw
                  case rel => exact ⟨p + 1, by go_num, by omega, unhide HO5, hbel5⟩
                  case measure => simp [intOf]; omega
              · obtain rfl : p = s.size := by omega
                have hpz : ¬ (s.size : Int) < s.size := by omega
                have HO5 := hide (owns_cast (unhide HO) (show D00 ++ encS (s.data.toList.take s.size) = pre ss (q + 1) from by
                  rw [enc_end]
                  simp only [pre]
                  rw [unhide HSE, unhide HP, if_neg (by rw [unhide HQ]; omega), List.append_nil]))
                clear HO
                go_wp2
                go_roundw
                case rel => exact ⟨q + 1, by go_num, by omega, unhide HO5, hbel⟩
                case measure => simp [intOf]; omega
          · have hqz : (0 : Int) < q := by omega
            have ho0 : wr.ownsRow w.heap.size 5 1 _ (pre ss q).length (Lib.byteCells (pre ss q)) := unhide HO
            have hws0 := hbel.size
            clear HO
            go_wp2_with (first | (at_builtin; refine wpList_append_own _ rfl _ _ 35 rfl w.heap.size 5 i0 (.int .u8 0) 1 1 Tryd.underlying35 hi hz0 hz1 hz2 rfl (by decide) _ _ _ rfl (ho0.alloc _) ⟨wr.heap.size, 0, none⟩ 1 1 [.int .u8 47] rfl rfl ?f1 ?f2 ?f3 ?f4 ?f5 ?_))
            case f1 => exact cell_one_new _ _ _
            case f2 => intro u hu; simp at hu; subst hu; rfl
            case f3 => unfold maxLen; omega
            case f4 => omega
            case f5 => simp; omega
            intro v4 w4 hown4 hgrow4 _
            have HO : Hid (Owns w.heap.size v4 (pre ss q ++ [47]) w4) := Owns.app (m := [47]) hown4
            have hbel4 : Below w.heap.size w w4 := (hbel.trans ((Below.refl _ _).alloc hws0 _)).grown hgrow4 (by simp; omega) (fun k hk => own_ge ho0 hk)
            clear hown4 hgrow4 ho0 hbel
            have hbel := hbel4
            clear hbel4
            have hcq : w4.cell? ⟨g, q, none⟩ = some (.string (ss q)) := (hbel.cell (p := ⟨g, q, none⟩) hgw).trans (unhide HC q hlt)
            have hpl' : (pre ss q ++ [47]).length ≤ 2 + tot ss q := by rw [List.length_append]; simp; omega
            clear hpl
            have hpl := hpl'
            clear hpl'
            generalize hP : pre ss q ++ [47] = D01 at *
            have HP := hide hP
            clear hP
            obtain ⟨s, hse⟩ : ∃ s, ss q = s := ⟨_, rfl⟩
            rw [hse] at hcq
            have HSE := hide hse
            have HT1 : Hid (tot ss (q + 1) = tot ss q + (1 + 3 * (ss q).size)) := by unfold Hid; rfl
            have hsz : 3 * s.size + tot ss q + 1 ≤ 4194304 := by have := unhide HT1; rw [hse] at this; omega
            clear hse HT1 htq1
            go_wp2
            go_loopw [5, 8] (fun v j wr => ∃ p : Nat, j = .int .i64 p ∧ p ≤ s.size ∧ Hid (Owns w.heap.size v (D01 ++ encS (s.data.toList.take p)) wr) ∧ Below w.heap.size w wr) (fun _ j _ => s.size - (intOf j).toNat)
            case atStart => exact ⟨0, rfl, Nat.zero_le _, by unfold Hid; simpa [encS] using unhide HO, hbel⟩
            case round =>
              clear HO hbel hcq
              obtain ⟨p, rfl, hp, HO, hbel⟩ := hrel
              have hel := enc_take_len s p hp
              have hDl : (D01 ++ encS (s.data.toList.take p)).length ≤ 4194306 := by rw [List.length_append]; omega
              clear hel
              by_cases hplt : p < s.size
              · have hpz : (p : Int) < s.size := by omega
                have HES := hide (enc_snoc s p hplt)
                have k11 := fun w => unres11 s[p] w
                have ka := fun w => hexHi s[p] w
                have kb := fun w => hexLo s[p] w
                have hcb := UInt8.toNat_lt s[p]
                have HEB : Hid (encB s[p] = if unres s[p] = true then [s[p]] else [37, hexU (s[p].toNat / 16), hexU (s[p].toNat % 16)]) := by unfold Hid; rfl
                generalize hGD : D01 ++ encS (s.data.toList.take p) = D at *
                have HGD := hide hGD
                clear hGD
                have ho : wr.ownsRow w.heap.size 5 1 _ D.length (Lib.byteCells D) := unhide HO
                have hws := hbel.size
                cases hu : unres s[p] with
                | true =>
                  rw [hu] at k11
                  have HEB' : Hid (encB s[p] = [s[p]]) := by unfold Hid; rw [unhide HEB, if_pos hu]
                  clear HEB hu ka kb HO
                  go_wp2_with (first | (go_at_call 11; refine (k11 _).mono ?_; rintro e w3 ⟨rfl, hw3⟩; rw [hw3]) | (at_builtin; refine wpList_append_own _ rfl _ _ 35 rfl w.heap.size 5 i0 (.int .u8 0) 1 1 Tryd.underlying35 hi hz0 hz1 hz2 rfl (by decide) _ _ _ rfl (ho.alloc _) ⟨wr.heap.size, 0, none⟩ 1 1 [.int .u8 s[p].toNat] rfl rfl ?d1B ?d2B ?d3B ?d4B ?d5B ?_))
                  case d1B => exact cell_one_new _ _ _
                  case d2B => intro u hu; simp at hu; subst hu; rfl
                  case d3B => unfold maxLen; omega
                  case d4B => omega
                  case d5B => simp; omega
                  intro v5 w5 hown5 hgrow5 _
                  have HO5 : Hid (Owns w.heap.size v5 (D01 ++ encS (s.data.toList.take (p + 1))) w5) := by
                    unfold Hid
                    rw [unhide HES, unhide HEB', ← List.append_assoc, unhide HGD]
                    exact Owns.app (m := [s[p]]) hown5
                  have hbel5 : Below w.heap.size w w5 := (hbel.trans ((Below.refl _ _).alloc hws _)).grown hgrow5 (by simp; omega) (fun k hk => own_ge ho hk)
                  clear hown5 hgrow5 ho
                  go_wp2
                  go_roundw
                  case rel => exact ⟨p + 1, by go_num, by omega, unhide HO5, hbel5⟩
                  case measure => simp [intOf]; omega
                | false =>
                  rw [hu] at k11
                  have HEB' : Hid (encB s[p] = [37, hexU (s[p].toNat / 16), hexU (s[p].toNat % 16)]) := by unfold Hid; rw [unhide HEB, if_neg (by rw [hu]; simp)]
                  obtain ⟨hx, hhx⟩ : ∃ x, hexU (s[p].toNat / 16) = x := ⟨_, rfl⟩
                  obtain ⟨lx, hlx⟩ : ∃ x, hexU (s[p].toNat % 16) = x := ⟨_, rfl⟩
                  rw [hhx, hlx] at HEB'
                  rw [hhx] at ka
                  rw [hlx] at kb
                  clear HEB hu HO hhx hlx
                  go_wp2_with fail
                  refine (k11 _).mono ?_
                  rintro e w3 ⟨rfl, rfl⟩
                  go_wp2_with fail
                  refine (ka _).mono ?_
                  rintro e w3 ⟨rfl, rfl⟩
                  go_wp2_with fail
                  refine (kb _).mono ?_
                  rintro e w3 ⟨rfl, rfl⟩
                  clear k11 ka kb
                  go_wp2_with (first | (at_builtin; refine wpList_append_own _ rfl _ _ 35 rfl w.heap.size 5 i0 (.int .u8 0) 1 1 Tryd.underlying35 hi hz0 hz1 hz2 rfl (by decide) _ _ _ rfl (ho.alloc _) ⟨w3.heap.size, 0, none⟩ 3 3 [.int .u8 37, .int .u8 hx.toNat, .int .u8 lx.toNat] rfl rfl ?e1B ?e2B ?e3B ?e4B ?e5B ?_))
                  case e1B => exact three_new _ _ _ _ _
                  case e2B => intro u hu; simp at hu; rcases hu with rfl | rfl | rfl <;> rfl
                  case e3B => unfold maxLen; omega
                  case e4B => omega
                  case e5B => simp; omega
                  intro v5 w5 hown5 hgrow5 _
                  have HO5 : Hid (Owns w.heap.size v5 (D01 ++ encS (s.data.toList.take (p + 1))) w5) := by
                    unfold Hid
                    rw [unhide HES, unhide HEB', ← List.append_assoc, unhide HGD]
                    exact Owns.app (m := [37, hx, lx]) hown5
                  have hbel5 : Below w.heap.size w w5 := (hbel.trans ((Below.refl _ _).alloc hws _)).grown hgrow5 (by simp; omega) (fun k hk => own_ge ho hk)
                  clear hown5 hgrow5 ho
                  go_wp2
                  go_roundw
                  case rel => exact ⟨p + 1, by go_num, by omega, unhide HO5, hbel5⟩
                  case measure => simp [intOf]; omega
              · obtain rfl : p = s.size := by omega
                have hpz : ¬ (s.size : Int) < s.size := by omega
                have HO5 := hide (owns_cast (unhide HO) (show D01 ++ encS (s.data.toList.take s.size) = pre ss (q + 1) from by
                  rw [enc_end]
                  simp only [pre]
                  rw [unhide HSE, if_pos hq0, unhide HP]))
                clear HO
                go_wp2
                go_roundw
                case rel => exact ⟨q + 1, by go_num, by omega, unhide HO5, hbel⟩
                case measure => simp [intOf]; omega
        · obtain rfl : q = k := by omega
          have hltz : ¬ (q : Int) < q := by omega
          have ho : wr.ownsRow w.heap.size 5 1 _ (pre ss q).length (Lib.byteCells (pre ss q)) := unhide HO
          obtain ⟨gg, cc, hv⟩ := owns_form ho (by have := pre_pos ss q; omega)
          have hconv := conv_own wr gg cc (pre ss q) (by rw [← hv]; exact ho)
          clear ho HO
          generalize hDD : pre ss q = D at *
          have HDD := hide hDD
          clear hDD
          subst hv
          go_wp2
          go_ret
          exact ⟨ret_str (by rw [unhide HDD]), hbel⟩
end Go.Proofs.Qxb6003334aDoor
