import Derived.Test.Qxb6600776aDoorSet
set_option linter.unusedSimpArgs false
set_option linter.unusedVariables false
namespace Go.Proofs.Qxb6600776aDoor
open Go.RowKit

set_option maxRecDepth 100000 in
set_option maxHeartbeats 4000000 in
theorem c47 (s : ByteArray) (w : World) (N : Nat) (hs : s.size ≤ 1048576) (hg : Gram s) (ho : OneDot s) (hdig : (rk s s.size).dig = true) (hD : Dec w N (fun _ => 0) 0 0 false) :
    Calls Tryd.prog 47 #[.pointer (some ⟨N, 0, none⟩), .string s] w fun r w' => r = .returned (.bool true) ∧ ∃ D tr, Dec w' N D (min (rk s s.size).nd 800) (min (rdp (rk s s.size)) 800) tr ∧ Dig D (min (rk s s.size).nd 800) ∧ (0 < (rk s s.size).nd → 49 ≤ D 0) ∧ (rk s s.size).m = num D (rk s s.size).nm ∧ (rk s s.size).nm = min (rk s s.size).nd 19 ∧ Below N w w' := by
  have h0 : 0 < s.size := by
    by_cases h : s.size = 0
    · rw [h] at hdig; cases hdig
    · omega
  have hb := hg 0 h0
  have e1 : (((s[0].toNat : Nat) : Int) == 43) = false := beq_eq_false_iff_ne.2 (by omega)
  have e2 : (((s[0].toNat : Nat) : Int) == 45) = false := beq_eq_false_iff_ne.2 (by omega)
  have hne : ¬ s = ByteArray.empty := fun e => by rw [e] at h0; exact absurd h0 (by decide)
  have hst : Hid (SetI w ((w.setCell ⟨N, 802, none⟩ (.bool false)).setCell ⟨N, 803, none⟩ (.bool false)) N (fun _ => 0) false rs0) := by
    refine ⟨(hD.set_neg).set_tr false, fun k hk => absurd hk (by simp [rs0]), fun h => absurd h (by simp [rs0]), rfl, rfl, fun _ => by simp [rs0], ((Below.refl N w).setCell (Nat.le_refl N) _).setCell (Nat.le_refl N) _⟩
  have c802 := hD.neg
  have c803 := hD.tr
  have f802 := hD.free 802
  have f803 := hD.free 803
  have HG := hide hg
  have HO := hide ho
  have HD := hide hdig
  clear hg ho hdig hb hD
  go_enter Tryd.func47, Tryd.ntmps47
  go_wp2
  clear e1 e2 c802 c803 f802 f803
  go_loopg [5, 6, 7] s.size (fun g i dot dig wr => ∃ k : Nat, i = .int .i64 k ∧ k ≤ s.size ∧ g = s.size - k ∧ dot = .bool (rk s k).dot ∧ dig = .bool (rk s k).dig ∧ Hid (∃ D tr, SetI w wr N D tr (rk s k)))
  case atStart => exact ⟨0, rfl, by omega, by omega, rfl, rfl, _, _, unhide hst⟩
  case round =>
    clear hst
    obtain ⟨k, rfl, hk, rfl, rfl, rfl, hrel⟩ := hrel
    have hI := rk_inv (unhide HG) k hk
    obtain ⟨D, tr, hS⟩ := unhide hrel
    have c800 := hS.dec.nd
    have c801 := hS.dec.dp
    have f800 := hS.dec.free 800
    have f801 := hS.dec.free 801
    by_cases hlt : k < s.size
    · have hlti : (k : Int) < s.size := by omega
      have hN := rk_succ s k hlt
      have hok := unhide HG k hlt
      have hDt := rk_dot (unhide HO) k hlt
      have n95 : (((s[k].toNat : Nat) : Int) == 95) = false := beq_eq_false_iff_ne.2 (by omega)
      obtain ⟨i1, i2, i3, i4, i5, i6⟩ := hI
      by_cases c46 : s[k].toNat = 46
      · have hd0 := hDt c46
        have y46 : (((s[k].toNat : Nat) : Int) == 46) = true := beq_iff_eq.2 (by omega)
        have key := hS.dot c46
        rw [← hN] at key
        have hB : Hid (SetI w (wr.setCell ⟨N, 801, none⟩ (.int .i64 ((min (rk s k).nd 800 : Nat) : Int))) N D tr (rk s (k + 1)) ∧ (rk s (k + 1)).dot = true ∧ (rk s (k + 1)).dig = (rk s k).dig) := by
          refine ⟨key, ?_, ?_⟩
          · rw [hN, rstep, if_pos c46]
          · rw [hN, rstep, if_pos c46]
        clear key hN hrel hS hDt i6
        rw [hd0]
        clear hd0
        generalize (min (rk s k).nd 800) = B at *
        go_wp2
        go_roundg (s.size - (k + 1))
        case measure => omega
        case rel =>
          obtain ⟨b1, b2, b3⟩ := unhide hB
          exact ⟨k + 1, rfl, by omega, rfl, by rw [b2], by rw [b3], D, tr, b1⟩
      · have h48 : (48 : Int) ≤ (s[k].toNat : Nat) := by omega
        have h57 : ((s[k].toNat : Nat) : Int) ≤ 57 := by omega
        have y46 : (((s[k].toNat : Nat) : Int) == 46) = false := beq_eq_false_iff_ne.2 (by omega)
        have hc : 48 ≤ s[k].toNat ∧ s[k].toNat ≤ 57 := by omega
        by_cases cz : s[k].toNat = 48 ∧ (rk s k).nd = 0
        · have y48 : (((s[k].toNat : Nat) : Int) == 48) = true := beq_iff_eq.2 (by omega)
          have hz := hS.z cz.2
          have key := hS.zero cz.1 cz.2
          rw [← hN] at key
          rw [show min (rk s k).nd 800 = 0 by omega] at c800
          rw [show min (rk s k).dp 800 = (rk s k).dp by omega] at c801
          have hB : Hid (SetI w (wr.setCell ⟨N, 801, none⟩ (.int .i64 ((rk s k).dp - 1))) N D tr (rk s (k + 1)) ∧ (rk s (k + 1)).dot = (rk s k).dot ∧ (rk s (k + 1)).dig = true) := by
            refine ⟨key, ?_, ?_⟩
            · rw [hN, rstep, if_neg c46, if_pos cz]
            · rw [hN, rstep, if_neg c46, if_pos cz]
          clear key hN hrel hS hDt i6 cz hz hok c46
          generalize (rk s k).dp = b at *
          generalize (rk s k).dig = dg at *
          generalize (rk s k).dot = dt at *
          go_wp2
          go_roundg (s.size - (k + 1))
          case measure => omega
          case rel =>
            obtain ⟨b1, b2, b3⟩ := unhide hB
            exact ⟨k + 1, rfl, by omega, rfl, by rw [b2], by rw [b3], D, tr, b1⟩
        · obtain ⟨tr2, hrs⟩ := rstep_digit (R := rk s k) hc cz
          have hdd : (rk s (k + 1)).dot = (rk s k).dot ∧ (rk s (k + 1)).dig = true := by rw [hN, hrs]; exact ⟨rfl, rfl⟩
          by_cases h8 : (rk s k).nd < 800
          · have key := hS.digit hc cz h8
            rw [← hN] at key
            rw [show min (rk s k).nd 800 = (rk s k).nd by omega] at c800
            have cd := hS.dec.d (rk s k).nd h8
            have fd := hS.dec.free (rk s k).nd
            have hB : Hid (SetI w ((wr.setCell ⟨N, (rk s k).nd, none⟩ (.int .u8 s[k].toNat)).setCell ⟨N, 800, none⟩ (.int .i64 (((rk s k).nd + 1 : Nat) : Int))) N (fun j => if j = (rk s k).nd then s[k].toNat else D j) tr (rk s (k + 1)) ∧ (rk s (k + 1)).dot = (rk s k).dot ∧ (rk s (k + 1)).dig = true) := ⟨key, hdd⟩
            clear key hN hrel hS hDt i6 hok c46 hrs hdd i1 i3 i4 i5 f801 c801
            generalize (rk s k).nd = B at *
            generalize (rk s k).dig = dg at *
            generalize (rk s k).dot = dt at *
            have h8' : decide (B < 800) = true := decide_eq_true h8
            have cne : ∀ v, (wr.setCell ⟨N, B, none⟩ v).cell? ⟨N, 800, none⟩ = some (.int .i64 B) := fun v => by rw [cell_other _ _ _ _ _ (by omega)]; exact c800
            have fne : ∀ v, (wr.setCell ⟨N, B, none⟩ v).frozen? ⟨N, 800, none⟩ = false := fun v => by rw [froz_set]; exact f800
            by_cases c48 : s[k].toNat = 48
            · have y48 : (((s[k].toNat : Nat) : Int) == 48) = true := beq_iff_eq.2 (by omega)
              have yn : ((B : Int) == 0) = false := beq_eq_false_iff_ne.2 (by omega)
              clear cz c48
              go_wp2
              go_region
              go_wp2
              go_roundg (s.size - (k + 1))
              case measure => omega
              case rel =>
                obtain ⟨b1, b2, b3⟩ := unhide hB
                exact ⟨k + 1, rfl, by omega, rfl, by rw [b2], by rw [b3], _, tr, b1.drewN 1⟩
            · have y48 : (((s[k].toNat : Nat) : Int) == 48) = false := beq_eq_false_iff_ne.2 (by omega)
              clear cz c48
              go_wp2
              go_region
              go_wp2
              go_roundg (s.size - (k + 1))
              case measure => omega
              case rel =>
                obtain ⟨b1, b2, b3⟩ := unhide hB
                exact ⟨k + 1, rfl, by omega, rfl, by rw [b2], by rw [b3], _, tr, b1.drewN 1⟩
          · have key := hS.more (c := s[k]) hc (by omega)
            rw [← hN] at key
            rw [show min (rk s k).nd 800 = 800 by omega] at c800
            have f803 := hS.dec.free 803
            have c803 := hS.dec.tr
            have hB : Hid (SetI w wr N D tr (rk s (k + 1)) ∧ (rk s (k + 1)).dot = (rk s k).dot ∧ (rk s (k + 1)).dig = true) := ⟨key, hdd⟩
            have c800' : wr.cell? ⟨N, 800, none⟩ = some (.int .i64 800) := c800
            clear key hN hrel hS hDt i6 hok c46 hrs hdd i1 i2 i3 i4 i5 f801 c801 c800 cz h8
            generalize (rk s k).dig = dg at *
            generalize (rk s k).dot = dt at *
            by_cases c48 : s[k].toNat = 48
            · have y48 : (((s[k].toNat : Nat) : Int) == 48) = true := beq_iff_eq.2 (by omega)
              have y48n : (((s[k].toNat : Nat) : Int) != 48) = false := by simp; omega
              clear c48
              go_wp2
              go_roundg (s.size - (k + 1))
              case measure => omega
              case rel =>
                obtain ⟨b1, b2, b3⟩ := unhide hB
                exact ⟨k + 1, rfl, by omega, rfl, by rw [b2], by rw [b3], _, tr, b1⟩
            · have y48 : (((s[k].toNat : Nat) : Int) == 48) = false := beq_eq_false_iff_ne.2 (by omega)
              have y48n : (((s[k].toNat : Nat) : Int) != 48) = true := by simp; omega
              clear c48
              go_wp2
              go_roundg (s.size - (k + 1))
              case measure => omega
              case rel =>
                obtain ⟨b1, b2, b3⟩ := unhide hB
                exact ⟨k + 1, rfl, by omega, rfl, by rw [b2], by rw [b3], _, _, b1.flag⟩
    · obtain rfl : k = s.size := by omega
      have hdg := unhide HD
      have hB : Hid (SetI w wr N D tr (rk s s.size)) := hS
      rw [hdg]
      have hself : (((s.size : Nat) : Int) != (s.size : Int)) = false := by simp
      clear hI hrel hS HG HO HD
      by_cases hdt : (rk s s.size).dot = true
      · have hF : Hid ((rk s s.size).dot = true) := hdt
        rw [hdt]
        clear hdt hdg c800 c801
        go_wp2
        go_ret
        obtain ⟨a1, a2, a3, a4, a5, a6, a7⟩ := unhide hB
        have e : rdp (rk s s.size) = (rk s s.size).dp := by unfold rdp; rw [unhide hF]; rfl
        exact ⟨rfl, D, tr, by rw [e]; exact a1, a2, a3, a4, a5, a7⟩
      · have hdt' : (rk s s.size).dot = false := by simpa using hdt
        have hF : Hid ((rk s s.size).dot = false) := hdt'
        rw [hdt']
        clear hdt hdt' hdg
        obtain ⟨b, hbb⟩ : ∃ b, min (rk s s.size).dp 800 = b := ⟨_, rfl⟩
        rw [hbb] at c801
        clear hbb
        obtain ⟨B, hBB⟩ : ∃ B, min (rk s s.size).nd 800 = B := ⟨_, rfl⟩
        rw [hBB] at c800
        have hBH : Hid (min (rk s s.size).nd 800 = B) := hBB
        clear hBB
        go_wp2
        go_ret
        obtain ⟨a1, a2, a3, a4, a5, a6, a7⟩ := unhide hB
        have e : min (rdp (rk s s.size)) 800 = ((B : Nat) : Int) := by unfold rdp; rw [unhide hF, ← unhide hBH]; simp only [Bool.false_eq_true, if_false]; omega
        exact ⟨rfl, D, tr, by rw [e]; exact a1.set_dp _, a2, a3, a4, a5, a7.setCell (Nat.le_refl N) _⟩
end Go.Proofs.Qxb6600776aDoor
