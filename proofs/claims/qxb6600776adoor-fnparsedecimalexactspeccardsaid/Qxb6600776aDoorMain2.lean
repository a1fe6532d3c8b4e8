import Derived.Test.Qxb6600776aDoorMain
set_option linter.unusedSimpArgs false
set_option linter.unusedVariables false
set_option exponentiation.threshold 10000
namespace Go.Proofs.Qxb6600776aDoor
open Go.RowKit

theorem ord_ge (b c : Nat) (hb : b < 9218868437227405312) (hc : c < 9218868437227405312) (h : c ≤ b) : ∃ o, FloatKind.f64.format.order b c = some o ∧ o ≠ .lt := by
  refine ⟨_, order_fin b c hb hc, ?_⟩
  rw [Ne, Nat.compare_eq_lt]; omega
theorem ord_le (b c : Nat) (hb : b < 9218868437227405312) (hc : c < 9218868437227405312) (h : b ≤ c) : ∃ o, FloatKind.f64.format.order b c = some o ∧ o ≠ .gt := by
  refine ⟨_, order_fin b c hb hc, ?_⟩
  rw [Ne, Nat.compare_eq_gt]; omega

theorem law3 (s : ByteArray) (w : World) (ev : Value) (hE : Env w) (hv : w.cell? ⟨2, 0, none⟩ = some ev) (hev : ev = .nilIface ∨ ∃ te pe, ev = .iface te pe) :
    Calls Tryd.prog 3 #[.string s] w fun e w' => e = .returned (.bool true) ∧ Below w.heap.size w w' := by
  by_cases hs : s.size ≤ 1048576
  · rcases gram_or s with hg | ⟨b0, hb0, hgt, hbad⟩
    · by_cases hsyn : (rk s s.size).dig = true ∧ s.data.toList.count 46 ≤ 1
      · obtain ⟨hdg, hcnt⟩ := hsyn
        have h : Syn s := ⟨hs, hg, onedot_of s hcnt, hdg⟩
        have h8 : ∀ w, Calls Tryd.prog 8 #[.string s] w fun e w' => e = .returned (.bool true) ∧ w' = w := fun w => by
          refine (c8_gram s w hs hg).mono ?_
          rintro e w' ⟨rfl, rfl⟩
          exact ⟨ret_bool (by rw [hdg, decide_eq_true hcnt]; rfl), rfl⟩
        have hR := rd_of h
        have h15 := c15_ok s w ev _ _ _ _ hR hE (pl_of h) hcnt hv hev
        have h7 := c7_of s w (fun b ok => ∃ er, ok = !er ∧ AtOk (rk s s.size).m (rexp (rk s s.size)) (rk s s.size).tr b er) (h15.mono (fun e w' ⟨⟨b, er, h1, h2⟩, h3⟩ => ⟨⟨b, !er, h1, er, rfl, h2⟩, h3⟩))
        have hmb := hR.mb
        obtain ⟨d, z, hI⟩ := intp_ex s hs
        have hdl := hI.dl
        -- the range
        by_cases hn : 309 ≤ d - z
        · have hzd : z < d := by omega
          have hzs : z < s.size := by omega
          obtain ⟨p1, p2, p3, p4⟩ := p_of h hI hzd hzs (by omega)
          have hz49 := (int_part h hI hzd hzs).2.2.2.2.1
          by_cases hbig : 310 ≤ d - z ∨ (d - z = 309 ∧ 50 ≤ s[z].toNat)
          · refine law_big s w d z hI hzs hbig (h7.mono ?_) h8
            rintro e w' ⟨⟨b, ok, rfl, er, rfl, hat⟩, hb⟩
            obtain ⟨i1, i2⟩ := at_inf hat p3 (by omega) (by omega)
            subst i1 i2
            exact ⟨⟨_, _, rfl, rfl, order_inf _ (by omega)⟩, hb⟩
          · have h309 : d - z = 309 := by omega
            have hz : s[z].toNat = 49 := by omega
            have hys : z + 1 < s.size := by omega
            obtain ⟨q1, q2⟩ := p4 (z + 1) hys rfl (by omega)
            have hgy := hg (z + 1) hys
            have h46 := hI.bef (z + 1) hys (by omega)
            have hp290 : rexp (rk s s.size) = 290 := by rw [p1]; omega
            by_cases h54 : s[z + 1].toNat ≤ 54
            · refine law_ok s w d z (z + 1) (ds s s.size).length (nK s) (dD s) hI (Or.inr ⟨h309, hzs, hys, rfl, hz, h54⟩) (h7.mono ?_) h8
              rintro e w' ⟨⟨b, ok, rfl, er, rfl, hat⟩, hb⟩
              obtain ⟨i1, i2⟩ := at_fin hat p3 (Or.inr ⟨hp290, by omega⟩)
              subst i1
              obtain ⟨o1, g1, g2⟩ := ord_ge b 0 i2 (by omega) (by omega)
              obtain ⟨o2, g3, g4⟩ := ord_le b 9218868437227405311 i2 (by omega) (by omega)
              exact ⟨⟨b, _, rfl, rfl, ex_of h hat i2, o1, o2, g1, g2, g3, g4⟩, hb⟩
            · refine law_band s w d z hI (z + 1) rfl hzs hys h309 hz (by omega) (h7.mono ?_) h8
              rintro e w' ⟨⟨b, ok, rfl, er, rfl, hat⟩, hb⟩
              rw [hp290] at hat
              obtain ⟨i1, i2⟩ := at_band hat (by omega) (by omega)
              refine ⟨⟨b, _, rfl, fun hf => ?_, fun ht => ?_⟩, hb⟩
              · have : er = true := by simpa using hf
                rw [i1 this]; exact order_inf _ (by omega)
              · have : er = false := by simpa using ht
                obtain ⟨j1, j2⟩ := i2 this
                obtain ⟨o1, g1, g2⟩ := ord_ge b 9214871658872686752 j2 (by omega) j1
                obtain ⟨o2, g3, g4⟩ := ord_le b 9218868437227405311 j2 (by omega) (by omega)
                exact ⟨o1, o2, g1, g2, g3, g4⟩
        · refine law_ok s w d z (z + 1) (ds s s.size).length (nK s) (dD s) hI (Or.inl (by omega)) (h7.mono ?_) h8
          rintro e w' ⟨⟨b, ok, rfl, er, rfl, hat⟩, hb⟩
          obtain ⟨i1, i2⟩ := at_fin hat hmb (Or.inl (p_small h hI (by omega)))
          subst i1
          obtain ⟨o1, g1, g2⟩ := ord_ge b 0 i2 (by omega) (by omega)
          obtain ⟨o2, g3, g4⟩ := ord_le b 9218868437227405311 i2 (by omega) (by omega)
          exact ⟨⟨b, _, rfl, rfl, ex_of h hat i2, o1, o2, g1, g2, g3, g4⟩, hb⟩
      · have hno : (rk s s.size).dig = false ∨ 1 < s.data.toList.count 46 := by
          cases hd : (rk s s.size).dig with
          | false => exact Or.inl rfl
          | true => exact Or.inr (Nat.lt_of_not_le (fun hc => hsyn ⟨hd, hc⟩))
        refine law_no s w hs (c7_no s w (c15_no s w hs hg hno)) (fun w => ?_)
        refine (c8_gram s w hs hg).mono ?_
        rintro e w' ⟨rfl, rfl⟩
        refine ⟨ret_bool ?_, rfl⟩
        rcases hno with hd | hc
        · rw [hd]; rfl
        · rw [decide_eq_false (by omega)]; simp
    · exact law_no s w hs (c7_no s w (c15_bad s w hs b0 hb0 hgt hbad)) (fun w => c8_bad s w hs b0 hb0 hgt hbad)
  · exact law_long s w hs
end Go.Proofs.Qxb6600776aDoor
