import Derived.Test.Qxb6600776aDoorShift
set_option linter.unusedSimpArgs false
set_option linter.unusedVariables false
namespace Go.Proofs.Qxb6600776aDoor
open Go.RowKit

set_option maxRecDepth 100000 in
theorem c74n (w : World) (N : Nat) (y : Int) (hy : y < 0) : Calls Tryd.prog 74 #[.pointer (some ⟨N, 0, none⟩), .int .i64 y] w fun e w' => e = .returned (.bool false) ∧ w' = w := by
  go_enter Tryd.func74, Tryd.ntmps74
  go_wp2
  go_ret
  exact ⟨rfl, rfl⟩

set_option maxRecDepth 100000 in
set_option maxHeartbeats 1000000 in
theorem c74 (w : World) (N : Nat) (D : Nat → Nat) (nd : Nat) (dp : Int) (tr : Bool) (j : Nat) (hD : Dec w N D nd dp tr) (h2 : nd ≤ 800) (hdig : Dig D nd) (hj : j ≤ 900) :
    Calls Tryd.prog 74 #[.pointer (some ⟨N, 0, none⟩), .int .i64 j] w fun e w' => (∃ b, e = .returned (.bool b)) ∧ w' = w := by
  have hnd := hD.nd
  have htr := hD.tr
  by_cases hjn : nd ≤ j
  · have hd1 : decide (nd ≤ j) = true := decide_eq_true hjn
    clear hD
    go_enter Tryd.func74, Tryd.ntmps74
    go_wp2
    go_ret
    exact ⟨⟨_, rfl⟩, rfl⟩
  · have hd1 : decide (nd ≤ j) = false := decide_eq_false hjn
    have hj8 : j < 800 := by omega
    have hc := hD.d j hj8
    have hdj := hdig j (by omega)
    obtain ⟨x, hx⟩ : ∃ x, D j = x := ⟨_, rfl⟩
    rw [hx] at hc hdj
    clear hx
    have hx1 := hdj.1
    have hx2 := hdj.2
    clear hdj
    by_cases h5 : x = 53
    · have h5' : ((x : Int) == 53) = true := beq_iff_eq.2 (by omega)
      clear h5
      by_cases hl : j + 1 = nd
      · have hl' : ((j : Int) + 1 == (nd : Int)) = true := beq_iff_eq.2 (by omega)
        cases tr
        · by_cases hj0 : j = 0
          · subst hj0
            clear hD hl
            go_enter Tryd.func74, Tryd.ntmps74
            go_wp2
            go_ret
            exact ⟨⟨_, rfl⟩, rfl⟩
          · have hj1 : decide (0 < j) = true := decide_eq_true (by omega)
            have hjm : (j : Int) - 1 = ((j - 1 : Nat) : Int) := by omega
            have hc1 := hD.d (j - 1) (by omega)
            have hdj := hdig (j - 1) (by omega)
            obtain ⟨z, hz⟩ : ∃ z, D (j - 1) = z := ⟨_, rfl⟩
            rw [hz] at hc1 hdj
            clear hz
            have hz1 := hdj.1
            have hz2 := hdj.2
            have hj9 : j - 1 < 800 := by omega
            clear hD hl hdj hj0
            go_enter Tryd.func74, Tryd.ntmps74
            go_wp2
            go_ret
            exact ⟨⟨_, rfl⟩, rfl⟩
        · clear hD hl
          go_enter Tryd.func74, Tryd.ntmps74
          go_wp2
          go_ret
          exact ⟨⟨_, rfl⟩, rfl⟩
      · have hl' : ((j : Int) + 1 == (nd : Int)) = false := beq_eq_false_iff_ne.2 (by omega)
        clear hD hl
        go_enter Tryd.func74, Tryd.ntmps74
        go_wp2
        go_ret
        exact ⟨⟨_, rfl⟩, rfl⟩
    · have h5' : ((x : Int) == 53) = false := beq_eq_false_iff_ne.2 (by omega)
      clear hD h5
      go_enter Tryd.func74, Tryd.ntmps74
      go_wp2
      go_ret
      exact ⟨⟨_, rfl⟩, rfl⟩

theorem numP_pad {D : Nat → Nat} {nd d : Nat} (h2 : nd ≤ 800) (hdig : Dig D nd) (hd : d ≤ 800) : numP D nd d = pad D nd / 10 ^ (800 - d) := by
  rw [pad_eq h2]
  obtain ⟨D', e1, e2, e3, e4⟩ := numP_dig hdig 800
  have e5 : numP D nd d = num D' d := by
    by_cases h : d ≤ nd
    · rw [numP_le h]; exact num_congr d (fun j hj => (e2 j (by omega)).symm)
    · rw [numP_ge (by omega)]
      have := num_zeros (D := D') nd (d - nd) (fun k a b => e3 k a)
      rw [Nat.add_sub_cancel' (by omega)] at this
      rw [this]; congr 1; exact num_congr nd (fun j hj => (e2 j hj).symm)
  rw [e4, e5]
  have := num_split (D := D') d (800 - d) (by rw [Nat.add_sub_cancel' hd]; exact e1)
  rw [Nat.add_sub_cancel' hd] at this
  symm
  exact Nat.div_eq_of_lt_le (by rw [Nat.mul_comm] at this; exact Nat.mul_comm .. ▸ this.1) this.2

set_option maxRecDepth 100000 in
set_option maxHeartbeats 1000000 in
theorem c68n (w : World) (N P : Nat) (dp : Int) (hD : DecP w N P dp) (hdp : dp < 0) :
    Calls Tryd.prog 68 #[.pointer (some ⟨N, 0, none⟩)] w fun e w' => e = .returned (.int .u64 0) ∧ w' = w := by
  obtain ⟨D, nd, tr, hd, -⟩ := hD
  have hnd := hd.nd
  have hdd := hd.dp
  have h1 : ¬ (20 < dp) := by omega
  have h2 : ¬ (0 < dp) := by omega
  clear hd
  go_enter Tryd.func68, Tryd.ntmps68
  go_wp2_with fail
  go_loopg [3, 4] 0 (fun g i n wr => i = .int .i64 0 ∧ n = .int .u64 0 ∧ w = wr)
  case atStart => exact ⟨rfl, rfl, rfl⟩
  case round =>
    obtain ⟨rfl, rfl, rfl⟩ := hrel
    go_wp2_with fail
    go_loopg [3, 4] 0 (fun g i n wr => i = .int .i64 0 ∧ n = .int .u64 0 ∧ w = wr)
    case atStart => exact ⟨rfl, rfl, rfl⟩
    case round =>
      obtain ⟨rfl, rfl, rfl⟩ := hrel
      go_wp2_with fail
      refine (c74n w N dp hdp).mono ?_
      rintro e w1 ⟨rfl, rfl⟩
      go_wp2_with fail
      go_ret
      exact ⟨rfl, rfl⟩

set_option maxRecDepth 100000 in
set_option maxHeartbeats 2000000 in
theorem c68p (w : World) (N P d : Nat) (hD : DecP w N P (d : Int)) (hd : d ≤ 18) :
    Calls Tryd.prog 68 #[.pointer (some ⟨N, 0, none⟩)] w fun e w' => (∃ n : Nat, e = .returned (.int .u64 n) ∧ (n = P / 10 ^ (800 - d) ∨ n = P / 10 ^ (800 - d) + 1)) ∧ w' = w := by
  obtain ⟨D, nd, tr, hdec, h1, h2, hdig, h0, hP⟩ := hD
  rw [← hP, ← numP_pad h2 hdig (by omega)]
  have hnd := hdec.nd
  have hdd := hdec.dp
  have hg : decide (20 < d) = false := decide_eq_false (by omega)
  have hA : Hid (Dec w N D nd d tr ∧ Dig D nd) := ⟨hdec, hdig⟩
  clear hdec hdig h0 hP
  go_enter Tryd.func68, Tryd.ntmps68
  go_wp2_with fail
  go_loopg [3, 4] d (fun g i n wr => w = wr ∧ ∃ i1 n1 : Nat, i = .int .i64 i1 ∧ n = .int .u64 n1 ∧ g = d - i1 ∧ i1 ≤ d ∧ i1 ≤ nd ∧ n1 ≤ 1000000000000000000 ∧ Hid (n1 = num D i1))
  case atStart => exact ⟨rfl, 0, 0, rfl, rfl, by omega, by omega, by omega, by omega, rfl⟩
  case round =>
    obtain ⟨rfl, i1, n1, rfl, rfl, rfl, hi1, hi2, hn1, hrel⟩ := hrel
    by_cases hx1 : i1 < d
    · have hx1' : decide (i1 < d) = true := decide_eq_true hx1
      by_cases hx2 : i1 < nd
      · have hx2' : decide (i1 < nd) = true := decide_eq_true hx2
        have hc := (unhide hA).1.d i1 (by omega)
        have hdg := (unhide hA).2 i1 hx2
        obtain ⟨x, hx⟩ : ∃ x, D i1 = x := ⟨_, rfl⟩
        rw [hx] at hc hdg
        have hxa := hdg.1
        have hxb := hdg.2
        have hi8 : i1 < 800 := by omega
        have hlt : n1 * 10 + (x - 48) ≤ 1000000000000000000 := by
          have e : num D (i1 + 1) = n1 * 10 + (x - 48) := by rw [unhide hrel, ← hx]; rfl
          have := num_lt (i1 + 1) (fun j hj => (unhide hA).2 j (by omega))
          have h3 : 10 ^ (i1 + 1) ≤ 10 ^ 18 := Nat.pow_le_pow_right (by omega) (by omega)
          omega
        have hB : Hid (n1 = num D i1 ∧ D i1 = x) := ⟨unhide hrel, hx⟩
        clear hdg hx hrel
        go_wp2_with fail
        go_roundg (d - (i1 + 1))
        case measure => omega
        case rel =>
          obtain ⟨b1, b2⟩ := unhide hB
          refine ⟨rfl, i1 + 1, n1 * 10 + (x - 48), rfl, by congr 2; omega, rfl, by omega, by omega, by omega, ?_⟩
          show _ = num D i1 * 10 + (D i1 - 48)
          rw [b2, ← b1]
      · have hx2' : decide (i1 < nd) = false := decide_eq_false hx2
        have hF : Hid (n1 = numP D nd i1 ∧ (i1 < d → nd ≤ i1)) := ⟨by rw [numP_le hi2]; exact unhide hrel, fun _ => by omega⟩
        clear hrel
        go_wp2_with fail
        go_loopg [3, 4] (d - i1) (fun g i n wr => w = wr ∧ ∃ i2 n2 : Nat, i = .int .i64 i2 ∧ n = .int .u64 n2 ∧ g = d - i2 ∧ i2 ≤ d ∧ n2 ≤ 1000000000000000000 ∧ Hid (n2 = numP D nd i2 ∧ (i2 < d → nd ≤ i2)))
        case atStart => exact ⟨rfl, i1, n1, rfl, rfl, rfl, by omega, by omega, hF⟩
        case round =>
          obtain ⟨rfl, i2, n2, rfl, rfl, rfl, hi3, hn2, hrel⟩ := hrel
          by_cases hx3 : i2 < d
          · have hx3' : decide (i2 < d) = true := decide_eq_true hx3
            have hs := numP_succ' (D := D) (nd := nd) (r := i2) ((unhide hrel).2 hx3)
            rw [← (unhide hrel).1] at hs
            have hlt : n2 * 10 ≤ 1000000000000000000 := by
              obtain ⟨D', e1, -, -, e4⟩ := numP_dig (unhide hA).2 (i2 + 1)
              have := num_lt (i2 + 1) e1
              have h3 : 10 ^ (i2 + 1) ≤ 10 ^ 18 := Nat.pow_le_pow_right (by omega) (by omega)
              omega
            have hB : Hid (numP D nd (i2 + 1) = n2 * 10 ∧ nd ≤ i2) := ⟨hs, (unhide hrel).2 hx3⟩
            clear hs
            go_wp2_with fail
            go_roundg (d - (i2 + 1))
            case measure => omega
            case rel => exact ⟨rfl, i2 + 1, n2 * 10, rfl, rfl, rfl, by omega, by omega, (unhide hB).1.symm, fun _ => by have := (unhide hB).2; omega⟩
          · have hx3' : decide (i2 < d) = false := decide_eq_false hx3
            have hid : i2 = d := by omega
            have hB : Hid (n2 = numP D nd d) := by have := (unhide hrel).1; rw [hid] at this; exact this
            clear hrel hF hid
            go_wp2_with fail
            refine (c74 w N D nd d tr d (unhide hA).1 h2 (unhide hA).2 (by omega)).mono ?_
            rintro e w1 ⟨⟨b, rfl⟩, rfl⟩
            cases b
            · go_wp2_with fail
              go_ret
              exact ⟨⟨n2, rfl, Or.inl (unhide hB)⟩, rfl⟩
            · go_wp2_with fail
              go_ret
              exact ⟨⟨n2 + 1, rfl, Or.inr (by rw [unhide hB])⟩, rfl⟩
    · have hx1' : decide (i1 < d) = false := decide_eq_false hx1
      have hF : Hid (n1 = numP D nd i1 ∧ (i1 < d → nd ≤ i1)) := ⟨by rw [numP_le hi2]; exact unhide hrel, fun _ => by omega⟩
      clear hrel
      go_wp2_with fail
      go_loopg [3, 4] (d - i1) (fun g i n wr => w = wr ∧ ∃ i2 n2 : Nat, i = .int .i64 i2 ∧ n = .int .u64 n2 ∧ g = d - i2 ∧ i2 ≤ d ∧ n2 ≤ 1000000000000000000 ∧ Hid (n2 = numP D nd i2 ∧ (i2 < d → nd ≤ i2)))
      case atStart => exact ⟨rfl, i1, n1, rfl, rfl, rfl, by omega, by omega, hF⟩
      case round =>
        obtain ⟨rfl, i2, n2, rfl, rfl, rfl, hi3, hn2, hrel⟩ := hrel
        by_cases hx3 : i2 < d
        · have hx3' : decide (i2 < d) = true := decide_eq_true hx3
          have hs := numP_succ' (D := D) (nd := nd) (r := i2) ((unhide hrel).2 hx3)
          rw [← (unhide hrel).1] at hs
          have hlt : n2 * 10 ≤ 1000000000000000000 := by
            obtain ⟨D', e1, -, -, e4⟩ := numP_dig (unhide hA).2 (i2 + 1)
            have := num_lt (i2 + 1) e1
            have h3 : 10 ^ (i2 + 1) ≤ 10 ^ 18 := Nat.pow_le_pow_right (by omega) (by omega)
            omega
          have hB : Hid (numP D nd (i2 + 1) = n2 * 10 ∧ nd ≤ i2) := ⟨hs, (unhide hrel).2 hx3⟩
          clear hs
          go_wp2_with fail
          go_roundg (d - (i2 + 1))
          case measure => omega
          case rel => exact ⟨rfl, i2 + 1, n2 * 10, rfl, rfl, rfl, by omega, by omega, (unhide hB).1.symm, fun _ => by have := (unhide hB).2; omega⟩
        · have hx3' : decide (i2 < d) = false := decide_eq_false hx3
          have hid : i2 = d := by omega
          have hB : Hid (n2 = numP D nd d) := by have := (unhide hrel).1; rw [hid] at this; exact this
          clear hrel hF hid
          go_wp2_with fail
          refine (c74 w N D nd d tr d (unhide hA).1 h2 (unhide hA).2 (by omega)).mono ?_
          rintro e w1 ⟨⟨b, rfl⟩, rfl⟩
          cases b
          · go_wp2_with fail
            go_ret
            exact ⟨⟨n2, rfl, Or.inl (unhide hB)⟩, rfl⟩
          · go_wp2_with fail
            go_ret
            exact ⟨⟨n2 + 1, rfl, Or.inr (by rw [unhide hB])⟩, rfl⟩
end Go.Proofs.Qxb6600776aDoor
