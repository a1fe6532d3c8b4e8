import Derived.Test.Qxb6600776aDoorFwd
set_option linter.unusedSimpArgs false
set_option linter.unusedVariables false
set_option exponentiation.threshold 10000
namespace Go.Proofs.Qxb6600776aDoor
open Go.RowKit

/-- What the decimal's float bits are worth here. -/
def FbOk (X0 b : Nat) (ovf : Bool) : Prop :=
  ((ovf = true ∧ b = 9218868437227405312) ∨ (ovf = false ∧ b < 9218868437227405312)) ∧ (X0 < 17 * 10 ^ 1507 → ovf = false) ∧ (17 * 10 ^ 1507 ≤ X0 → ovf = false → 9214871658872686752 ≤ b)
/-- What the loops hand on: the decimal on 800 places P, its point dp, the powers drawn (e1) and given (t), the steps s. -/
structure LoopI (w wr : World) (N X0 P : Nat) (dp : Int) (e1 t s : Nat) : Prop where
  dec : DecP wr N P dp
  fb : FB X0 P dp e1 t s
  bel : Below N w wr
theorem DecP.drewN {w : World} {N P : Nat} {dp : Int} (h : DecP w N P dp) (n : Nat) : DecP (w.drewN n) N P dp := by
  obtain ⟨D, nd, tr, h, r⟩ := h
  exact ⟨D, nd, tr, h.drewN n, r⟩
theorem LoopI.right {w wr w1 : World} {N X0 P P' : Nat} {dp : Int} {e1 t s n j q : Nat} (h : LoopI w wr N X0 P dp e1 t s) (b1 : DecP w1 N P' (dp - j)) (b2 : P' = P * 10 ^ j / 2 ^ n) (hd : -400 ≤ dp - j) (b4 : Below N (wr.drewN q) w1) :
    LoopI w w1 N X0 P' (dp - j) (e1 + n) t (s + 1) := ⟨b1, h.fb.right b2 b1.ge hd, Below.trans (below_drewN h.bel q) b4⟩
theorem LoopI.left {w wr w1 : World} {N X0 P P' : Nat} {dp : Int} {e1 t s n dl q : Nat} (h : LoopI w wr N X0 P dp e1 t s) (b1 : DecP w1 N P' (dp + dl)) (b2 : P' = P * 2 ^ n / 10 ^ dl) (hd : -400 ≤ dp) (b4 : Below N (wr.drewN q) w1) :
    LoopI w w1 N X0 P' (dp + dl) e1 (t + n) (s + 1) := ⟨b1, h.fb.left b2 b1.ge hd, Below.trans (below_drewN h.bel q) b4⟩
def MOk (P : Nat) (dp : Int) (n : Nat) : Prop := (dp < 0 ∧ n = 0) ∨ (0 ≤ dp ∧ (n = P / 10 ^ (800 - dp.toNat) ∨ n = P / 10 ^ (800 - dp.toNat) + 1))
theorem c68 (w : World) (N P : Nat) (dp : Int) (hD : DecP w N P dp) (hd : dp ≤ 18) :
    Calls Tryd.prog 68 #[.pointer (some ⟨N, 0, none⟩)] w fun e w' => (∃ n : Nat, e = .returned (.int .u64 n) ∧ MOk P dp n) ∧ w' = w := by
  by_cases h : dp < 0
  · refine (c68n w N P dp hD h).mono ?_
    rintro e w1 ⟨rfl, rfl⟩
    exact ⟨⟨0, rfl, Or.inl ⟨h, rfl⟩⟩, rfl⟩
  · obtain ⟨d, rfl⟩ : ∃ d : Nat, dp = (d : Int) := ⟨dp.toNat, by omega⟩
    refine (c68p w N P d hD (by omega)).mono ?_
    rintro e w1 ⟨⟨n, rfl, hn⟩, rfl⟩
    exact ⟨⟨n, rfl, Or.inr ⟨by omega, hn⟩⟩, rfl⟩
def TailPre (X0 P2 : Nat) (dp2 ex : Int) : Prop :=
  (X0 < 17 * 10 ^ 1507 → ex ≤ 1023 ∧ (ex = 1023 → dp2 = 0 ∧ P2 < 95 * 10 ^ 798)) ∧ (17 * 10 ^ 1507 ≤ X0 → 1023 ≤ ex ∧ (ex = 1023 → dp2 = 0 ∧ 94 * 10 ^ 798 ≤ P2)) ∧ (ex ≠ -1022 → dp2 = 0 ∧ 5 * 10 ^ 799 ≤ P2) ∧ -1022 ≤ ex
def TailOk (X0 : Nat) (ex : Int) (n : Nat) : Prop :=
  (X0 < 17 * 10 ^ 1507 → ex ≤ 1023 ∧ (ex = 1023 → n < 9007199254740992)) ∧ (17 * 10 ^ 1507 ≤ X0 → 1023 ≤ ex ∧ (ex = 1023 → 8400000000000000 ≤ n)) ∧ (ex ≠ -1022 → 4503599627370496 ≤ n) ∧ -1022 ≤ ex ∧ n ≤ 9007199254740992
theorem tail_ok {X0 P2 P3 dl n : Nat} {dp2 ex : Int} (h : TailPre X0 P2 dp2 ex) (h2 : P2 < 10 ^ 800) (hP : P3 = P2 * 2 ^ 53 / 10 ^ dl) (h1 : 10 ^ 799 ≤ P3) (hd : dp2 ≤ 0) (hm : MOk P3 (dp2 + dl) n) : TailOk X0 ex n := by
  have h16 := mant_dl h2 hP h1
  obtain ⟨a1, a2, a3, a4⟩ := h
  have key : dp2 = 0 → n = P2 * 2 ^ 53 / 10 ^ 800 ∨ n = P2 * 2 ^ 53 / 10 ^ 800 + 1 := by
    intro h0
    subst h0
    rcases hm with ⟨x, -⟩ | ⟨-, y⟩
    · omega
    · have e : (0 + (dl : Int)).toNat = dl := by omega
      rw [e, mant_eq hP h16] at y
      exact y
  have hle : n ≤ 9007199254740992 := by
    rcases hm with ⟨-, x⟩ | ⟨-, y⟩
    · omega
    · have := mant_lt (d := (dp2 + dl).toNat) h2 hP (by omega) h16
      have e : (2:Nat) ^ 53 = 9007199254740992 := by decide
      rw [e] at this
      omega
  refine ⟨fun hx => ⟨(a1 hx).1, fun he => ?_⟩, fun hx => ⟨(a2 hx).1, fun he => ?_⟩, fun he => ?_, a4, hle⟩
  · obtain ⟨u, v⟩ := (a1 hx).2 he
    have := mant_lt95 v
    rcases key u with k | k <;> omega
  · obtain ⟨u, v⟩ := (a2 hx).2 he
    have := mant_ge94 v
    rcases key u with k | k <;> omega
  · obtain ⟨u, v⟩ := a3 he
    have := mant_ge5 v
    rcases key u with k | k <;> omega

set_option maxRecDepth 100000 in
set_option maxHeartbeats 8000000 in
theorem c48 (w : World) (N P0 X0 : Nat) (dp0 : Int) (hD : DecP w N P0 dp0) (hC : Cheats N w) (hT : PowT N w) (hI : FInfo N w) (hX : X0 = P0 * Z dp0) (hd1 : -330 ≤ dp0) (hd2 : dp0 ≤ 310) :
    Calls Tryd.prog 48 #[.pointer (some ⟨N, 0, none⟩), .pointer (some ⟨5, 0, none⟩)] w fun e w' => ∃ (b : Nat) (ovf : Bool), e = .returned (.tuple #[.int .u64 b, .bool ovf]) ∧ FbOk X0 b ovf ∧ Below N w w' := by
  obtain ⟨⟨nd, hn1, hnd⟩, hdp, -, -⟩ := hD.cells
  have hn0 : ((nd : Int) == 0) = false := beq_eq_false_iff_ne.2 (by omega)
  have hA : Hid (Cheats N w ∧ PowT N w ∧ FInfo N w) := ⟨hC, hT, hI⟩
  have h310 : ¬ (310 < dp0) := by omega
  have h330 : ¬ (dp0 < -330) := by omega
  have hl0 : P0 / 10 ^ 799 < 10 := by
    obtain ⟨-, -, -, x, -, a, b, c, -⟩ := hD.cells
    omega
  have hXb : Hid (10 ^ 869 ≤ X0) := by
    have h1 : 10 ^ 70 ≤ Z dp0 := Nat.pow_le_pow_right (by omega) (by omega)
    rw [hX]
    exact Nat.le_trans (by decide +kernel : 10 ^ 869 ≤ 10 ^ 799 * 10 ^ 70) (Nat.mul_le_mul hD.ge h1)
  have hst : Hid (LoopI w w N X0 P0 dp0 0 0 0) := ⟨hD, hX ▸ FB.init P0 dp0, Below.refl _ _⟩
  obtain ⟨g0, hg0⟩ : ∃ g0 : Nat, g0 = (dp0 * 10 + (P0 / 10 ^ 799 : Nat)).toNat := ⟨_, rfl⟩
  have hg0b : g0 ≤ 3200 := by omega
  have hG0 : Hid (g0 = (dp0 * 10 + (P0 / 10 ^ 799 : Nat)).toNat) := hg0
  clear hD hC hT hI hX hg0 hl0
  go_enter Tryd.func48, Tryd.ntmps48
  go_wp2
  refine wp_scope_fwd (fun R hgoto hret => ?_)
  go_wp2
  clear hnd hdp hn0 h310 h330
  go_loopg [6] g0 (fun g e wr => ∃ (ei : Nat) (dpi : Int), e = .int .i64 ei ∧ ei ≤ 100000 ∧ -330 ≤ dpi ∧ dpi ≤ 310 ∧ wr.cell? ⟨N, 801, none⟩ = some (.int .i64 dpi) ∧ Hid (∃ P s, LoopI w wr N X0 P dpi ei 0 s ∧ g = (dpi * 10 + (P / 10 ^ 799 : Nat)).toNat ∧ s + g ≤ 3200 ∧ ei ≤ 27 * s))
  case atStart => exact ⟨0, dp0, rfl, by omega, by omega, by omega, (unhide hst).dec.cells.2.1, P0, 0, unhide hst, unhide hG0, by omega, by omega⟩
  case round =>
    obtain ⟨ei, dpi, rfl, hei, hdl, hdh, hc801, hrel⟩ := hrel
    by_cases hpos : 0 < dpi
    · obtain ⟨m, rfl⟩ : ∃ m : Nat, dpi = (m : Int) := ⟨dpi.toNat, by omega⟩
      have hm0 : decide (0 < m) = true := decide_eq_true (by omega)
      obtain ⟨P, s, hL, hg, hs, hes⟩ := unhide hrel
      obtain ⟨g7, o7, c7, -, -, hp7, hp7c⟩ := (unhide hA).2.1.below hL.bel
      have htab := tabN_fact m (by omega)
      obtain ⟨n, hn⟩ : ∃ n, n = tabN m := ⟨_, rfl⟩
      rw [← hn] at htab
      obtain ⟨hn3, hn27, -⟩ := htab
      have hB : Hid (LoopI w wr N X0 P m ei 0 s ∧ gk = ((m : Int) * 10 + (P / 10 ^ 799 : Nat)).toNat ∧ s + gk ≤ 3200 ∧ ei ≤ 27 * s) := ⟨hL, hg, hs, hes⟩
      clear hrel hL hg hs hes hpos
      by_cases h9 : 9 ≤ m
      · have h9' : decide (9 ≤ m) = true := decide_eq_true h9
        have hn27' : n = 27 := by rw [hn, tabN, if_pos h9]
        clear hn hp7c
        subst hn27'
        go_wp2
        go_quiet (fail)
        go_wp2_with fail
        have hL := (unhide hB).1
        refine (c67R _ N P 27 m (hL.dec.drewN _) (by omega) (by omega) (by omega)).mono ?_
        rintro e w1 ⟨rfl, P', j, b1, b2, b3, b4⟩
        go_wp2_with fail
        obtain ⟨-, hg, hs, hes⟩ := unhide hB
        have hmp := of_decide_eq_true hm0
        have hnx := hL.right b1 b2 (by omega) b4
        have hmu := mu_right (dp := (m : Int)) hL.dec.ge b2 (by omega) b1.lt
        go_roundg (((m : Int) - j) * 10 + (P' / 10 ^ 799 : Nat)).toNat
        case measure => omega
        case rel => exact ⟨ei + 27, (m : Int) - j, rfl, by omega, by omega, by omega, b1.cells.2.1, P', s + 1, hnx, rfl, by omega, by omega⟩
      · have h9' : decide (9 ≤ m) = false := decide_eq_false h9
        have hcm := hp7c m (by omega)
        have hnm : ptab m = n := by rw [hn, tabN, if_neg h9]
        rw [hnm] at hcm
        clear hn hp7c hnm
        have hm9 : m < 9 := by omega
        go_wp2
        go_quiet (fail)
        go_wp2_with fail
        go_quiet (fail)
        go_wp2_with fail
        have hL := (unhide hB).1
        refine (c67R _ N P n m (hL.dec.drewN _) (by omega) (by omega) (by omega)).mono ?_
        rintro e w1 ⟨rfl, P', j, b1, b2, b3, b4⟩
        go_wp2_with fail
        obtain ⟨-, hg, hs, hes⟩ := unhide hB
        have hmp := of_decide_eq_true hm0
        have hnx := hL.right b1 b2 (by omega) b4
        have hmu := mu_right (dp := (m : Int)) hL.dec.ge b2 (by omega) b1.lt
        go_roundg (((m : Int) - j) * 10 + (P' / 10 ^ 799 : Nat)).toNat
        case measure => omega
        case rel => exact ⟨ei + n, (m : Int) - j, rfl, by omega, by omega, by omega, b1.cells.2.1, P', s + 1, hnx, rfl, by omega, by omega⟩
    · obtain ⟨P, s, hL, hg, hs, hes⟩ := unhide hrel
      obtain ⟨-, -, -, x, hx0, hx1, hx2, hx3, -, -⟩ := hL.dec.cells
      obtain ⟨g1, hg1⟩ : ∃ g1 : Nat, g1 = ((-dpi) * 10 + 9 - (P / 10 ^ 799 : Nat)).toNat := ⟨_, rfl⟩
      have hB : Hid (LoopI w wr N X0 P dpi ei 0 s ∧ g1 = ((-dpi) * 10 + 9 - (P / 10 ^ 799 : Nat)).toNat ∧ s ≤ 3200 ∧ ei ≤ 27 * s) := ⟨hL, hg1, by omega, hes⟩
      clear hrel hL hg hs hes hg1 hx0 hx1 hx2 hx3
      go_wp2
      clear hc801
      go_loopg [6] g1 (fun g e wr => ∃ (ei dpi : Int) (x : Nat), e = .int .i64 ei ∧ -200000 ≤ ei ∧ ei ≤ 200000 ∧ -330 ≤ dpi ∧ dpi ≤ 0 ∧ wr.cell? ⟨N, 801, none⟩ = some (.int .i64 dpi) ∧ wr.cell? ⟨N, 0, none⟩ = some (.int .u8 x) ∧ 49 ≤ x ∧ x ≤ 57 ∧ Hid (∃ P e1 t s, LoopI w wr N X0 P dpi e1 t s ∧ ei = e1 - t ∧ P / 10 ^ 799 = x - 48 ∧ g = ((-dpi) * 10 + 9 - (P / 10 ^ 799 : Nat)).toNat ∧ s + g ≤ 7000 ∧ t ≤ 27 * s ∧ e1 ≤ 100000))
      case atStart =>
        obtain ⟨hL, hg1, hs, hes⟩ := unhide hB
        obtain ⟨-, h8, -, x, hx0, hx1, hx2, hx3, -, -⟩ := hL.dec.cells
        exact ⟨ei, dpi, x, rfl, by omega, by omega, by omega, by omega, h8, hx0, hx1, hx2, P, ei, 0, s, hL, by omega, hx3, hg1, by omega, by omega, by omega⟩
      case round =>
        clear hB
        obtain ⟨ei, dpi, x, rfl, hei1, hei2, hdp1, hdp2, hc801, hcx, hx1, hx2, hrel⟩ := hrel
        by_cases hneg : dpi < 0
        · obtain ⟨m, hmd⟩ : ∃ m : Nat, -dpi = (m : Int) := ⟨(-dpi).toNat, by omega⟩
          obtain ⟨P, e1, t, s, hL, hee, hxP, hg, hs, ht, he1⟩ := unhide hrel
          obtain ⟨g7, o7, c7, -, -, hp7, hp7c⟩ := (unhide hA).2.1.below hL.bel
          have htab := tabN_fact m (by omega)
          obtain ⟨n, hn⟩ : ∃ n, n = tabN m := ⟨_, rfl⟩
          rw [← hn] at htab
          obtain ⟨hn3, hn27, hn10⟩ := htab
          have hB : Hid (LoopI w wr N X0 P dpi e1 t s ∧ ei = e1 - t ∧ gk = ((-dpi) * 10 + 9 - (P / 10 ^ 799 : Nat)).toNat ∧ s + gk ≤ 7000 ∧ t ≤ 27 * s ∧ e1 ≤ 100000 ∧ (dpi < 0 ∧ 2 ^ n ≤ 10 ^ (-dpi).toNat ∨ dpi = 0 ∧ n = 1 ∧ P < 5 * 10 ^ 799)) :=
            ⟨hL, hee, hg, hs, ht, he1, Or.inl ⟨hneg, by rw [show (-dpi).toNat = m by omega]; exact hn10⟩⟩
          clear hrel hL hee hxP hg hs ht he1 hn10
          by_cases h9 : 9 ≤ m
          · have h9' : decide (9 ≤ m) = true := decide_eq_true h9
            have hn27' : n = 27 := by rw [hn, tabN, if_pos h9]
            clear hn hp7c
            subst hn27'
            go_wp2
            go_quiet (fail)
            go_wp2_with fail
            have hL := (unhide hB).1
            refine (c67L _ N P 27 dpi (hL.dec.drewN _) ((unhide hA).1.below (below_drewN hL.bel _)) (by omega) (by omega) (by omega)).mono ?_
            rintro e w1 ⟨rfl, P', dl, b1, b2, b3, b4⟩
            go_wp2_with fail
            obtain ⟨-, hee, hg, hs, ht, he1, hor⟩ := unhide hB
            have hnx := hL.left b1 b2 (by omega) b4
            have hmu := mu_left (dp := dpi) hL.dec.ge hL.dec.lt b2 (by omega) b1.ge
            have hdl := dp_left hL.dec.lt b2 b1.ge (hor)
            obtain ⟨-, h8, -, x', hx0', hx1', hx2', hx3', -, -⟩ := b1.cells
            go_roundg ((-(dpi + dl)) * 10 + 9 - (P' / 10 ^ 799 : Nat)).toNat
            case measure => omega
            case rel => exact ⟨ei - 27, dpi + dl, x', rfl, by omega, by omega, by omega, by omega, h8, hx0', hx1', hx2', P', e1, t + 27, s + 1, hnx, by omega, hx3', rfl, by omega, by omega, by omega⟩
          · have h9' : decide (9 ≤ m) = false := decide_eq_false h9
            have hcm := hp7c m (by omega)
            have hnm : ptab m = n := by rw [hn, tabN, if_neg h9]
            rw [hnm] at hcm
            clear hn hp7c hnm
            have hm9 : m < 9 := by omega
            go_wp2
            go_quiet (fail)
            go_wp2_with fail
            go_quiet (fail)
            go_wp2_with fail
            have hL := (unhide hB).1
            refine (c67L _ N P n dpi (hL.dec.drewN _) ((unhide hA).1.below (below_drewN hL.bel _)) (by omega) (by omega) (by omega)).mono ?_
            rintro e w1 ⟨rfl, P', dl, b1, b2, b3, b4⟩
            go_wp2_with fail
            obtain ⟨-, hee, hg, hs, ht, he1, hor⟩ := unhide hB
            have hnx := hL.left b1 b2 (by omega) b4
            have hmu := mu_left (dp := dpi) hL.dec.ge hL.dec.lt b2 (by omega) b1.ge
            have hdl := dp_left hL.dec.lt b2 b1.ge (hor)
            obtain ⟨-, h8, -, x', hx0', hx1', hx2', hx3', -, -⟩ := b1.cells
            go_roundg ((-(dpi + dl)) * 10 + 9 - (P' / 10 ^ 799 : Nat)).toNat
            case measure => omega
            case rel => exact ⟨ei - n, dpi + dl, x', rfl, by omega, by omega, by omega, by omega, h8, hx0', hx1', hx2', P', e1, t + n, s + 1, hnx, by omega, hx3', rfl, by omega, by omega, by omega⟩
        · have hdpi : dpi = 0 := by omega
          subst hdpi
          by_cases hx5 : x < 53
          · have hx5' : decide (x < 53) = true := decide_eq_true hx5
            obtain ⟨P, e1, t, s, hL, hee, hxP, hg, hs, ht, he1⟩ := unhide hrel
            obtain ⟨g7, o7, c7, -, -, hp7, hp7c⟩ := (unhide hA).2.1.below hL.bel
            have hcm : wr.cell? ⟨g7, o7, none⟩ = some (.int .i64 1) := hp7c 0 (by omega)
            have hB : Hid (LoopI w wr N X0 P 0 e1 t s ∧ ei = e1 - t ∧ gk = ((-(0:Int)) * 10 + 9 - (P / 10 ^ 799 : Nat)).toNat ∧ s + gk ≤ 7000 ∧ t ≤ 27 * s ∧ e1 ≤ 100000 ∧ P < 5 * 10 ^ 799) := by
              refine ⟨hL, hee, hg, hs, ht, he1, ?_⟩
              have hq : 0 < 10 ^ 799 := Nat.pow_pos (by omega)
              exact (Nat.div_lt_iff_lt_mul hq).1 (by omega)
            clear hrel hL hee hxP hg hs ht he1 hp7c
            go_wp2
            go_quiet (fail)
            go_wp2_with fail
            go_quiet (fail)
            go_wp2_with fail
            have hL := (unhide hB).1
            refine (c67L _ N P 1 (0:Int) (hL.dec.drewN _) ((unhide hA).1.below (below_drewN hL.bel _)) (by omega) (by omega) (by omega)).mono ?_
            rintro e w1 ⟨rfl, P', dl, b1, b2, b3, b4⟩
            go_wp2_with fail
            obtain ⟨-, hee, hg, hs, ht, he1, hor⟩ := unhide hB
            have hnx := hL.left b1 b2 (by omega) b4
            have hmu := mu_left (dp := (0:Int)) hL.dec.ge hL.dec.lt b2 (by omega) b1.ge
            have hdl := dp_left hL.dec.lt b2 b1.ge (Or.inr ⟨rfl, rfl, hor⟩)
            obtain ⟨-, h8, -, x', hx0', hx1', hx2', hx3', -, -⟩ := b1.cells
            go_roundg ((-((0:Int) + dl)) * 10 + 9 - (P' / 10 ^ 799 : Nat)).toNat
            case measure => omega
            case rel => exact ⟨ei - 1, (0:Int) + dl, x', rfl, by omega, by omega, by omega, by omega, h8, hx0', hx1', hx2', P', e1, t + 1, s + 1, hnx, by omega, hx3', rfl, by omega, by omega, by omega⟩
          · have hx5' : decide (x < 53) = false := decide_eq_false hx5
            obtain ⟨ex, hex⟩ : ∃ ex : Int, ei - 1 = ex := ⟨_, rfl⟩
            have hexl : -210000 ≤ ex := by omega
            have hexh : ex ≤ 210000 := by omega
            have hpre : Hid (∃ P, DecP wr N P 0 ∧ Below N w wr ∧ -1300 ≤ ex ∧ (-1022 ≤ ex → TailPre X0 P 0 ex) ∧ (X0 < 17 * 10 ^ 1507 → ex ≤ 1023) ∧ (17 * 10 ^ 1507 ≤ X0 → 1023 ≤ ex)) := by
              obtain ⟨P, e1, t, s, hL, hee, hxP, hg, hs, ht, he1⟩ := unhide hrel
              have h5 : 5 * 10 ^ 799 ≤ P := (Nat.le_div_iff_mul_le (Nat.pow_pos (by omega))).1 (by omega)
              have hbot := hL.fb.bot hL.dec.lt (by omega) (unhide hXb)
              have hsm := hL.fb.small h5
              have hbd := hL.fb.band hL.dec.lt (by omega)
              refine ⟨P, hL.dec, hL.bel, by omega, fun hge => ⟨fun hx => ⟨?_, fun he => ⟨rfl, (hsm hx).2 ?_⟩⟩, fun hx => ⟨?_, fun he => ⟨rfl, (hbd hx).2 ?_⟩⟩, fun _ => ⟨rfl, h5⟩, hge⟩, fun hx => ?_, fun hx => ?_⟩
              · have := (hsm hx).1; omega
              · omega
              · have := (hbd hx).1; omega
              · omega
              · have := (hsm hx).1; omega
              · have := (hbd hx).1; omega
            have hf : FInfo N wr := (unhide hA).2.2.below (unhide hpre).choose_spec.2.1
            have f0 := hf.mb
            have f1 := hf.eb
            have f2 := hf.bi
            have hcn := (unhide hpre).choose_spec.1.cells.2.2.1
            clear hrel hf hst hG0 hei hdl hdh hpos hdp1 hdp2 hd1 hd2
            by_cases hden : ex < -1022
            · obtain ⟨k, hk⟩ : ∃ k : Nat, -1022 - ex = (k : Int) := ⟨(-1022 - ex).toNat, by omega⟩
              obtain ⟨ex2, hex2⟩ : ∃ ex2 : Int, ex + (k : Int) = ex2 := ⟨_, rfl⟩
              have hx2a : -1022 ≤ ex2 := by omega
              have hx2b : ex2 ≤ -1022 := by omega
              have hk1 : 1 ≤ k := by omega
              have hk2 : k ≤ 3000 := by have := (unhide hpre).choose_spec.2.2.1; omega
              have hx2c : ex2 = -1022 := by omega
              have hH2 : Hid (ex2 = -1022) := hx2c
              clear hx2c
              go_wp2_with fail
              obtain ⟨P, hdec, hbel, -, -, -, hpb⟩ := unhide hpre
              refine (c67RR _ N P k 0 hdec (by omega) (by omega) (by omega)).mono ?_
              rintro e w1 ⟨rfl, P2, dp2, b1, b2, b3, b4⟩
              have hm : Hid (DecP w1 N P2 dp2 ∧ Below N w w1 ∧ dp2 ≤ 0 ∧ -61000 ≤ dp2 ∧ TailPre X0 P2 dp2 ex2) := by
                have e2 := unhide hH2
                refine ⟨b1, Below.trans hbel b4, b2, by omega, fun hx => ⟨by omega, fun h => absurd h (by omega)⟩, fun hx => absurd (hpb hx) (by omega), fun h => absurd e2 h, by omega⟩
              have hf : FInfo N w1 := (unhide hA).2.2.below (Below.trans hbel b4)
              have f0 := hf.mb
              have f1 := hf.eb
              have f2 := hf.bi
              clear hf hpre hpb hdec hbel b1 b2 b3 b4
              go_wp2
              have hov1 : ¬ (2047 ≤ ex2 + 1023) := by omega
              go_quiet (fail)
              go_wp2_with fail
              obtain ⟨hdec2, hbel2, hdp2a, hdp2b, htp⟩ := unhide hm
              refine (c67L _ N P2 53 dp2 (hdec2.drewN _) ((unhide hA).1.below (below_drewN hbel2 _)) (by omega) (by omega) (by omega)).mono ?_
              rintro e w2 ⟨rfl, P3, dl, b1, b2, b3, b4⟩
              have hbel3 : Hid (Below N w w2) := Below.trans (below_drewN hbel2 _) b4
              go_wp2_with fail
              have hdl16 := mant_dl hdec2.lt b2 b1.ge
              refine (c68 _ N P3 (dp2 + dl) b1 (by omega)).mono ?_
              rintro e w3 ⟨⟨n, rfl, hn⟩, rfl⟩
              have hto : Hid (TailOk X0 ex2 n) := tail_ok htp hdec2.lt b2 b1.ge hdp2a hn
              have hf3 := (unhide hA).2.2.below (unhide hbel3)
              have f0 := hf3.mb
              have f1 := hf3.eb
              have f2 := hf3.bi
              have hcn := b1.cells.2.2.1
              have hn53 := (unhide hto).2.2.2.2
              have hel := (unhide hto).2.2.2.1
              clear hdec2 hbel2 htp hn b1 b2 b4 hf3 hm
              by_cases hc1 : n = 9007199254740992
              · subst hc1
                obtain ⟨ex1, hex1⟩ : ∃ ex1 : Int, ex2 + 1 = ex1 := ⟨_, rfl⟩
                have hb1 : -1021 ≤ ex1 := by omega
                have hb2 : ex1 ≤ 1024 := by omega
                by_cases hov2 : ex1 = 1024
                · exfalso; omega
                · have hov3 : ¬ (2047 ≤ ex1 + 1023) := by omega
                  obtain ⟨E, hE⟩ : ∃ E : Nat, ex1 + 1023 = (E : Int) := ⟨(ex1 + 1023).toNat, by omega⟩
                  have hE1 : E ≤ 2046 := by omega
                  have hov3' : ¬ ((2047:Int) ≤ (E : Int)) := by omega
                  have ho0 : bits BinOp.and IntKind.u64 4503599627370496 4503599627370496 = 4503599627370496 := by decide +kernel
                  have ho1 : bits BinOp.and IntKind.u64 4503599627370496 4503599627370495 = 0 := by decide +kernel
                  have ho2 : bits BinOp.and IntKind.i64 (E : Int) 2047 = (E : Int) := and2047 ⟨E, by omega⟩
                  have ho3 : bits BinOp.or IntKind.u64 0 ((E : Int) * 4503599627370496) = ((E * 4503599627370496 : Nat) : Int) := by
                    have := bits_or_u64_nat 0 (E * 4503599627370496) (by omega) (by omega)
                    simpa using this
                  have hH : Hid (ex2 + 1 = ex1) := hex1
                  go_wp2
                  go_quiet (fail)
                  go_wp2_with fail
                  go_step3
                  refine unhide hgoto 0 _ _ _ rfl ?_
                  go_wp2
                  try go_step3
                  go_wp2
                  go_quiet (fail)
                  go_wp2
                  try rw [Exit.noGoto_ret]
                  go_ret2
                  refine ⟨E * 4503599627370496, false, rfl, ⟨Or.inr ⟨rfl, by omega⟩, fun _ => rfl, fun hx _ => ?_⟩, ?_⟩
                  · have := ((unhide hto).2.1 hx).1; have := unhide hH; omega
                  · exact below_drewN (unhide hbel3) _
              · have hne : ((n : Int) == 9007199254740992) = false := beq_eq_false_iff_ne.2 (by omega)
                have hnlt : n < 9007199254740992 := by omega
                by_cases hc2 : n < 4503599627370496
                · have hand : bits BinOp.and IntKind.u64 (n : Int) 4503599627370496 = 0 := by
                    have := bits_and_u64_nat n (2 ^ 52) (by omega) (by decide)
                    rw [and_pow, show n / 2 ^ 52 = 0 by omega] at this
                    simpa using this
                  have ho1 : bits BinOp.and IntKind.u64 (n : Int) 4503599627370495 = (n : Int) := by
                    have := bits_and_u64_nat n (2 ^ 52 - 1) (by omega) (by decide)
                    rw [Nat.and_two_pow_sub_one_eq_mod, Nat.mod_eq_of_lt (by omega)] at this
                    simpa using this
                  have ho2 : bits BinOp.and IntKind.i64 0 2047 = 0 := by decide +kernel
                  have ho3 : bits BinOp.or IntKind.u64 (n : Int) 0 = (n : Int) := by
                    have := bits_or_u64_nat n 0 (by omega) (by decide)
                    simpa using this
                  have hH : Hid (ex2 = -1022) := by
                    by_cases h : ex2 = -1022
                    · exact h
                    · exact absurd ((unhide hto).2.2.1 h) (by omega)
                  go_wp2
                  go_step3
                  refine unhide hgoto 0 _ _ _ rfl ?_
                  go_wp2
                  try go_step3
                  go_wp2
                  go_quiet (fail)
                  go_wp2
                  try rw [Exit.noGoto_ret]
                  go_ret2
                  refine ⟨n, false, rfl, ⟨Or.inr ⟨rfl, by omega⟩, fun _ => rfl, fun hx _ => ?_⟩, ?_⟩
                  · have := ((unhide hto).2.1 hx).1; have := unhide hH; omega
                  · exact below_drewN (unhide hbel3) _
                · have hand : bits BinOp.and IntKind.u64 (n : Int) 4503599627370496 = 4503599627370496 := by
                    have := bits_and_u64_nat n (2 ^ 52) (by omega) (by decide)
                    rw [and_pow, show n / 2 ^ 52 = 1 by omega] at this
                    simpa using this
                  obtain ⟨f, hfn⟩ : ∃ f, n = f + 4503599627370496 := ⟨n - 4503599627370496, by omega⟩
                  have ho1 : bits BinOp.and IntKind.u64 (n : Int) 4503599627370495 = (f : Int) := by
                    have := bits_and_u64_nat n (2 ^ 52 - 1) (by omega) (by decide)
                    rw [Nat.and_two_pow_sub_one_eq_mod, show n % 2 ^ 52 = f by omega] at this
                    simpa using this
                  obtain ⟨E, hE⟩ : ∃ E : Nat, ex2 + 1023 = (E : Int) := ⟨(ex2 + 1023).toNat, by omega⟩
                  have hE1 : E ≤ 2046 := by omega
                  have ho2 : bits BinOp.and IntKind.i64 (E : Int) 2047 = (E : Int) := and2047 ⟨E, by omega⟩
                  have ho3 : bits BinOp.or IntKind.u64 (f : Int) ((E : Int) * 4503599627370496) = ((E * 4503599627370496 + f : Nat) : Int) := by
                    have := bits_or_u64_nat f (E * 2 ^ 52) (by omega) (by omega)
                    rw [or_low _ _ _ (by omega)] at this
                    exact this
                  have hfb : f < 4503599627370496 := by omega
                  have hH : Hid (n = f + 4503599627370496) := hfn
                  clear hfn
                  go_wp2
                  go_step3
                  refine unhide hgoto 0 _ _ _ rfl ?_
                  go_wp2
                  try go_step3
                  go_wp2
                  go_quiet (fail)
                  go_wp2
                  try rw [Exit.noGoto_ret]
                  go_ret2
                  refine ⟨E * 4503599627370496 + f, false, rfl, ⟨Or.inr ⟨rfl, by omega⟩, fun _ => rfl, fun hx _ => ?_⟩, ?_⟩
                  · obtain ⟨u, v⟩ := (unhide hto).2.1 hx
                    have := v (by omega)
                    have := unhide hH
                    omega
                  · exact below_drewN (unhide hbel3) _
            · by_cases hov : 1024 ≤ ex
              · have hov1 : 2047 ≤ ex + 1023 := by omega
                go_wp2
                go_quiet (fail)
                go_wp2_with fail
                go_step3
                refine unhide hgoto 1 _ _ _ rfl ?_
                have ho1 : bits BinOp.and IntKind.u64 0 4503599627370495 = 0 := by decide +kernel
                have ho2 : bits BinOp.and IntKind.i64 2047 2047 = 2047 := by decide +kernel
                have ho3 : bits BinOp.or IntKind.u64 0 9218868437227405312 = 9218868437227405312 := by decide +kernel
                go_wp2
                try go_step3
                go_wp2
                go_quiet (fail)
                go_wp2
                try go_step3
                go_wp2
                go_quiet (fail)
                go_wp2
                try rw [Exit.noGoto_ret]
                go_ret2
                refine ⟨9218868437227405312, true, rfl, ⟨Or.inl ⟨rfl, rfl⟩, fun hx => ?_, fun _ h => absurd h (by simp)⟩, ?_⟩
                · have := (unhide hpre).choose_spec.2.2.2.2.1 hx; omega
                · exact below_drewN (unhide hpre).choose_spec.2.1 _
              · obtain ⟨P, q1, q2, q3, q4, q5, q6⟩ := unhide hpre
                have hm : Hid (DecP wr N P 0 ∧ Below N w wr ∧ (0:Int) ≤ 0 ∧ (-61000:Int) ≤ 0 ∧ TailPre X0 P 0 ex) := ⟨q1, q2, by omega, by omega, q4 (by omega)⟩
                clear hpre q1 q2 q3 q4 q5 q6
                have hexl : -1022 ≤ ex := by omega
                have hexh : ex ≤ 1023 := by omega
                go_wp2
                have hov1 : ¬ (2047 ≤ ex + 1023) := by omega
                go_quiet (fail)
                go_wp2_with fail
                obtain ⟨hdec2, hbel2, hdp2a, hdp2b, htp⟩ := unhide hm
                refine (c67L _ N P 53 0 (hdec2.drewN _) ((unhide hA).1.below (below_drewN hbel2 _)) (by omega) (by omega) (by omega)).mono ?_
                rintro e w2 ⟨rfl, P3, dl, b1, b2, b3, b4⟩
                have hbel3 : Hid (Below N w w2) := Below.trans (below_drewN hbel2 _) b4
                go_wp2_with fail
                have hdl16 := mant_dl hdec2.lt b2 b1.ge
                refine (c68 _ N P3 (0 + dl) b1 (by omega)).mono ?_
                rintro e w3 ⟨⟨n, rfl, hn⟩, rfl⟩
                have hto : Hid (TailOk X0 ex n) := tail_ok htp hdec2.lt b2 b1.ge hdp2a hn
                have hf3 := (unhide hA).2.2.below (unhide hbel3)
                have f0 := hf3.mb
                have f1 := hf3.eb
                have f2 := hf3.bi
                have hcn := b1.cells.2.2.1
                have hn53 := (unhide hto).2.2.2.2
                have hel := (unhide hto).2.2.2.1
                clear hdec2 hbel2 htp hn b1 b2 b4 hf3 hm
                by_cases hc1 : n = 9007199254740992
                · subst hc1
                  obtain ⟨ex1, hex1⟩ : ∃ ex1 : Int, ex + 1 = ex1 := ⟨_, rfl⟩
                  have hb1 : -1021 ≤ ex1 := by omega
                  have hb2 : ex1 ≤ 1024 := by omega
                  by_cases hov2 : ex1 = 1024
                  · have hov3 : 2047 ≤ ex1 + 1023 := by omega
                    clear hb1 hb2
                    have hH : Hid (ex = 1023) := show ex = 1023 by omega
                    have hb1 : -1021 ≤ ex1 := by omega
                    have hb2 : ex1 ≤ 1024 := by omega
                    clear hov2
                    go_wp2
                    go_quiet (fail)
                    go_wp2_with fail
                    go_step3
                    refine unhide hgoto 1 _ _ _ rfl ?_
                    have ho1 : bits BinOp.and IntKind.u64 0 4503599627370495 = 0 := by decide +kernel
                    have ho2 : bits BinOp.and IntKind.i64 2047 2047 = 2047 := by decide +kernel
                    have ho3 : bits BinOp.or IntKind.u64 0 9218868437227405312 = 9218868437227405312 := by decide +kernel
                    go_wp2
                    try go_step3
                    go_wp2
                    go_quiet (fail)
                    go_wp2
                    try go_step3
                    go_wp2
                    go_quiet (fail)
                    go_wp2
                    try rw [Exit.noGoto_ret]
                    go_ret2
                    refine ⟨9218868437227405312, true, rfl, ⟨Or.inl ⟨rfl, rfl⟩, fun hx => ?_, fun _ h => absurd h (by simp)⟩, ?_⟩
                    · have := ((unhide hto).1 hx).2 (unhide hH); omega
                    · exact below_drewN (unhide hbel3) _
                  · have hov3 : ¬ (2047 ≤ ex1 + 1023) := by omega
                    obtain ⟨E, hE⟩ : ∃ E : Nat, ex1 + 1023 = (E : Int) := ⟨(ex1 + 1023).toNat, by omega⟩
                    have hE1 : E ≤ 2046 := by omega
                    have hov3' : ¬ ((2047:Int) ≤ (E : Int)) := by omega
                    have ho0 : bits BinOp.and IntKind.u64 4503599627370496 4503599627370496 = 4503599627370496 := by decide +kernel
                    have ho1 : bits BinOp.and IntKind.u64 4503599627370496 4503599627370495 = 0 := by decide +kernel
                    have ho2 : bits BinOp.and IntKind.i64 (E : Int) 2047 = (E : Int) := and2047 ⟨E, by omega⟩
                    have ho3 : bits BinOp.or IntKind.u64 0 ((E : Int) * 4503599627370496) = ((E * 4503599627370496 : Nat) : Int) := by
                      have := bits_or_u64_nat 0 (E * 4503599627370496) (by omega) (by omega)
                      simpa using this
                    have hH : Hid (ex + 1 = ex1) := hex1
                    go_wp2
                    go_quiet (fail)
                    go_wp2_with fail
                    go_step3
                    refine unhide hgoto 0 _ _ _ rfl ?_
                    go_wp2
                    try go_step3
                    go_wp2
                    go_quiet (fail)
                    go_wp2
                    try rw [Exit.noGoto_ret]
                    go_ret2
                    refine ⟨E * 4503599627370496, false, rfl, ⟨Or.inr ⟨rfl, by omega⟩, fun _ => rfl, fun hx _ => ?_⟩, ?_⟩
                    · have := ((unhide hto).2.1 hx).1; have := unhide hH; omega
                    · exact below_drewN (unhide hbel3) _
                · have hne : ((n : Int) == 9007199254740992) = false := beq_eq_false_iff_ne.2 (by omega)
                  have hnlt : n < 9007199254740992 := by omega
                  by_cases hc2 : n < 4503599627370496
                  · have hand : bits BinOp.and IntKind.u64 (n : Int) 4503599627370496 = 0 := by
                      have := bits_and_u64_nat n (2 ^ 52) (by omega) (by decide)
                      rw [and_pow, show n / 2 ^ 52 = 0 by omega] at this
                      simpa using this
                    have ho1 : bits BinOp.and IntKind.u64 (n : Int) 4503599627370495 = (n : Int) := by
                      have := bits_and_u64_nat n (2 ^ 52 - 1) (by omega) (by decide)
                      rw [Nat.and_two_pow_sub_one_eq_mod, Nat.mod_eq_of_lt (by omega)] at this
                      simpa using this
                    have ho2 : bits BinOp.and IntKind.i64 0 2047 = 0 := by decide +kernel
                    have ho3 : bits BinOp.or IntKind.u64 (n : Int) 0 = (n : Int) := by
                      have := bits_or_u64_nat n 0 (by omega) (by decide)
                      simpa using this
                    have hH : Hid (ex = -1022) := by
                      by_cases h : ex = -1022
                      · exact h
                      · exact absurd ((unhide hto).2.2.1 h) (by omega)
                    go_wp2
                    go_step3
                    refine unhide hgoto 0 _ _ _ rfl ?_
                    go_wp2
                    try go_step3
                    go_wp2
                    go_quiet (fail)
                    go_wp2
                    try rw [Exit.noGoto_ret]
                    go_ret2
                    refine ⟨n, false, rfl, ⟨Or.inr ⟨rfl, by omega⟩, fun _ => rfl, fun hx _ => ?_⟩, ?_⟩
                    · have := ((unhide hto).2.1 hx).1; have := unhide hH; omega
                    · exact below_drewN (unhide hbel3) _
                  · have hand : bits BinOp.and IntKind.u64 (n : Int) 4503599627370496 = 4503599627370496 := by
                      have := bits_and_u64_nat n (2 ^ 52) (by omega) (by decide)
                      rw [and_pow, show n / 2 ^ 52 = 1 by omega] at this
                      simpa using this
                    obtain ⟨f, hfn⟩ : ∃ f, n = f + 4503599627370496 := ⟨n - 4503599627370496, by omega⟩
                    have ho1 : bits BinOp.and IntKind.u64 (n : Int) 4503599627370495 = (f : Int) := by
                      have := bits_and_u64_nat n (2 ^ 52 - 1) (by omega) (by decide)
                      rw [Nat.and_two_pow_sub_one_eq_mod, show n % 2 ^ 52 = f by omega] at this
                      simpa using this
                    obtain ⟨E, hE⟩ : ∃ E : Nat, ex + 1023 = (E : Int) := ⟨(ex + 1023).toNat, by omega⟩
                    have hE1 : E ≤ 2046 := by omega
                    have ho2 : bits BinOp.and IntKind.i64 (E : Int) 2047 = (E : Int) := and2047 ⟨E, by omega⟩
                    have ho3 : bits BinOp.or IntKind.u64 (f : Int) ((E : Int) * 4503599627370496) = ((E * 4503599627370496 + f : Nat) : Int) := by
                      have := bits_or_u64_nat f (E * 2 ^ 52) (by omega) (by omega)
                      rw [or_low _ _ _ (by omega)] at this
                      exact this
                    have hfb : f < 4503599627370496 := by omega
                    have hH : Hid (n = f + 4503599627370496) := hfn
                    clear hfn
                    go_wp2
                    go_step3
                    refine unhide hgoto 0 _ _ _ rfl ?_
                    go_wp2
                    try go_step3
                    go_wp2
                    go_quiet (fail)
                    go_wp2
                    try rw [Exit.noGoto_ret]
                    go_ret2
                    refine ⟨E * 4503599627370496 + f, false, rfl, ⟨Or.inr ⟨rfl, by omega⟩, fun _ => rfl, fun hx _ => ?_⟩, ?_⟩
                    · obtain ⟨u, v⟩ := (unhide hto).2.1 hx
                      have := v (by omega)
                      have := unhide hH
                      omega
                    · exact below_drewN (unhide hbel3) _
end Go.Proofs.Qxb6600776aDoor
