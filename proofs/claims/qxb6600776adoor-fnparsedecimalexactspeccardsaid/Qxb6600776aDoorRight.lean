import Derived.Test.Qxb6600776aDoorLeft3
set_option linter.unusedSimpArgs false
set_option linter.unusedVariables false
namespace Go.Proofs.Qxb6600776aDoor
open Go.RowKit

/-- What the right shift's two writing loops keep: wv digits are written. -/
structure RI (w wr : World) (N : Nat) (D : Nat → Nat) (nd : Nat) (dp : Int) (K r0 wv : Nat) (D' : Nat → Nat) (tr' : Bool) : Prop where
  dec : Dec wr N D' nd dp tr'
  old : ∀ i, wv ≤ i → D' i = D i
  val : num D' wv = numP D nd (r0 + wv) / (10 * K)
  dig : Dig D' wv
  lead : 0 < wv → 49 ≤ D' 0
  bel : Below N w wr

theorem RI.store {w wr : World} {N : Nat} {D : Nat → Nat} {nd : Nat} {dp : Int} {K r0 wv : Nat} {D' : Nat → Nat} {tr' : Bool} (h : RI w wr N D nd dp K r0 wv D' tr') (c dg : Nat) (hK : 0 < K)
    (hw : wv < 800) (hs : numP D nd (r0 + wv + 1) = numP D nd (r0 + wv) * 10 + c) (hc : c < 10) (h1 : K ≤ numP D nd r0) (h2 : numP D nd r0 < 10 * K) (hdg : dg = numP D nd (r0 + wv) % (10 * K) / K) :
    RI w (wr.setCell ⟨N, wv, none⟩ (.int .u8 ((dg + 48 : Nat) : Int))) N D nd dp K r0 (wv + 1) (fun i => if i = wv then dg + 48 else D' i) tr' := by
  have hlt : dg < 10 := by
    rw [hdg, Nat.div_lt_iff_lt_mul hK]; exact Nat.mod_lt _ (by omega)
  refine ⟨h.dec.set_d wv (dg + 48) hw, fun i hi => ?_, ?_, fun i hi => ?_, fun _ => ?_, h.bel.setCell (Nat.le_refl N) _⟩
  · have : i ≠ wv := by omega
    simp only [this, if_false]; exact h.old i (by omega)
  · have e : num (fun i => if i = wv then dg + 48 else D' i) wv = num D' wv := num_congr wv (fun i hi => by simp; omega)
    have st := (rs_step (numP D nd (r0 + wv)) K c hK hc).1
    rw [← Nat.add_assoc, hs, st, ← hdg, ← h.val]
    simp only [num, e, if_true]; omega
  · by_cases e : i = wv
    · simp only [e, if_true]; omega
    · simp only [e, if_false]; exact h.dig i (by omega)
  · by_cases e : wv = 0
    · subst e
      simp only [if_true]
      rw [Nat.add_zero, Nat.mod_eq_of_lt h2] at hdg
      have : 1 ≤ dg := by rw [hdg, Nat.le_div_iff_mul_le hK]; omega
      omega
    · have : (0:Nat) ≠ wv := fun h => e h.symm
      simp only [this, if_false]; exact h.lead (by omega)
theorem RI.flag {w wr : World} {N : Nat} {D : Nat → Nat} {nd : Nat} {dp : Int} {K r0 wv : Nat} {D' : Nat → Nat} {tr' : Bool} (h : RI w wr N D nd dp K r0 wv D' tr') :
    RI w (wr.setCell ⟨N, 803, none⟩ (.bool true)) N D nd dp K r0 wv D' true :=
  ⟨h.dec.set_tr true, h.old, h.val, h.dig, h.lead, h.bel.setCell (Nat.le_refl N) _⟩

theorem numP_zero {D : Nat → Nat} {nd r k : Nat} (h : nd + k + 1 ≤ r) : numP D nd r % (10 * 2 ^ k) = 0 := by
  rw [numP_ge (by omega)]
  have e : (10:Nat) ^ (r - nd) = 10 * 2 ^ k * (5 ^ k * 10 ^ (r - nd - (k + 1))) := by
    have e1 : r - nd = 1 + k + (r - nd - (k + 1)) := by omega
    have e2 : (10:Nat) ^ k = 2 ^ k * 5 ^ k := by rw [← Nat.mul_pow]
    rw [e1, Nat.pow_add, Nat.pow_add, e2, Nat.pow_one]
    have e3 : 1 + k + (r - nd - (k + 1)) - (k + 1) = r - nd - (k + 1) := by omega
    rw [e3]
    simp only [Nat.mul_assoc]
  rw [e, Nat.mul_left_comm]
  exact Nat.mul_mod_right _ _

set_option maxRecDepth 100000 in
set_option maxHeartbeats 4000000 in
theorem c73a (w : World) (N : Nat) (D : Nat → Nat) (nd : Nat) (dp : Int) (tr : Bool) (k K : Nat)
    (hD : Dec w N D nd dp tr) (h1 : 1 ≤ nd) (h2 : nd ≤ 800) (hdp : -100000 ≤ dp ∧ dp ≤ 100000) (hk1 : 1 ≤ k) (hk2 : k ≤ 60) (hK : 2 ^ k = K) (hdig : Dig D nd) (h0 : 49 ≤ D 0) :
    Calls Tryd.prog 73 #[.pointer (some ⟨N, 0, none⟩), .int .u64 k] w fun e w' => e = .returned (.tuple #[]) ∧ ∃ D' nd' tr' r0, Dec w' N D' nd' (dp - ((r0 - 1 : Nat) : Int)) tr' ∧ 1 ≤ nd' ∧ nd' ≤ 800 ∧ Dig D' nd' ∧ 49 ≤ D' 0 ∧ 1 ≤ r0 ∧ r0 ≤ 20 ∧ pad D' nd' = pad D nd * 10 ^ (r0 - 1) / K ∧ Below N w w' := by
  have hK6 : K ≤ 1152921504606846976 := by
    rw [← hK]; exact Nat.le_trans (Nat.pow_le_pow_right (by omega) hk2) (by decide)
  have hKp : 0 < K := by rw [← hK]; exact Nat.pow_pos (by omega)
  have hKi : ((2:Int) ^ k) = (K : Int) := by rw [← hK]; simp
  have hnd := hD.nd
  have hA : Hid (Dec w N D nd dp tr ∧ Dig D nd ∧ 49 ≤ D 0) := ⟨hD, hdig, h0⟩
  have hKK : Hid (2 ^ k = K) := hK
  -- how far the first loop can come
  have hrb : Hid (∀ r, 1 ≤ r → numP D nd r < K → r ≤ 19) := by
    intro r hr hlt
    by_cases h : r ≤ 19
    · exact h
    · exfalso
      have hge : 10 ^ (r - 1) ≤ numP D nd r := by
        by_cases hle : r ≤ nd
        · rw [numP_le hle]
          obtain ⟨m, rfl⟩ : ∃ m, r = m + 1 := ⟨r - 1, by omega⟩
          exact num_ge h0 m
        · rw [numP_ge (by omega)]
          obtain ⟨m, rfl⟩ : ∃ m, nd = m + 1 := ⟨nd - 1, by omega⟩
          have e : r - 1 = m + (r - (m + 1)) := by omega
          rw [e, Nat.pow_add]
          exact Nat.mul_le_mul_right _ (num_ge h0 m)
      have : 10 ^ 19 ≤ 10 ^ (r - 1) := Nat.pow_le_pow_right (by omega) (by omega)
      omega
  clear hD hdig h0 hK
  go_enter Tryd.func73, Tryd.ntmps73
  go_wp2
  go_loopg [4, 6] nd (fun g r n wr => w = wr ∧ ∃ r1 n1 : Nat, r = .int .i64 r1 ∧ n = .int .u64 n1 ∧ g = nd - r1 ∧ r1 ≤ nd ∧ Hid (n1 = num D r1 ∧ n1 < 10 * K ∧ (1 ≤ r1 → numP D nd (r1 - 1) < K)))
  case atStart => exact ⟨rfl, 0, 0, rfl, rfl, by omega, by omega, rfl, by omega, fun h => absurd h (by omega)⟩
  case round =>
    obtain ⟨rfl, r1, n1, rfl, rfl, rfl, hr1, hrel⟩ := hrel
    obtain ⟨e1, e2, e3⟩ := unhide hrel
    clear hrel
    by_cases hn : n1 < K
    · have hq : (n1 : Int) / (K : Int) = 0 := Int.ediv_eq_zero_of_lt (by omega) (by omega)
      by_cases hr : r1 < nd
      · have hrd : decide (nd ≤ r1) = false := decide_eq_false (by omega)
        have hcell := (unhide hA).1.d r1 (by omega)
        have hdg := (unhide hA).2.1 r1 hr
        obtain ⟨x, hx⟩ : ∃ x, D r1 = x := ⟨_, rfl⟩
        rw [hx] at hcell hdg
        have hx1 := hdg.1
        have hx2 := hdg.2
        have hB : Hid (n1 = num D r1 ∧ D r1 = x) := ⟨e1, hx⟩
        clear hdg hx e1 e2 e3
        go_wp2
        go_roundg (nd - (r1 + 1))
        case measure => omega
        case rel =>
          obtain ⟨b1, b2⟩ := unhide hB
          refine ⟨rfl, r1 + 1, n1 * 10 + x - 48, rfl, by congr 2; omega, rfl, by omega, ?_, by omega, fun _ => ?_⟩
          · simp only [num, b2, ← b1]; omega
          · rw [Nat.add_sub_cancel, numP_le (by omega), ← b1]; exact hn
      · have hrd : decide (nd ≤ r1) = true := decide_eq_true (by omega)
        have hnz := num_pos (unhide hA).2.2 nd h1
        have hrn : nd = r1 := by omega
        subst hrn
        have hn0 : ((n1 : Int) == 0) = false := beq_eq_false_iff_ne.2 (by omega)
        have hst : Hid (1 ≤ n1 ∧ n1 = numP D nd nd ∧ n1 < 10 * K ∧ numP D nd (nd - 1) < K) := ⟨by omega, by rw [numP_le (Nat.le_refl _)]; exact e1, e2, e3 (by omega)⟩
        clear e1 e2 e3 hnz
        go_wp2
        go_loopg [4, 6] (K - n1) (fun g r n wr => w = wr ∧ ∃ r2 n2 : Nat, r = .int .i64 r2 ∧ n = .int .u64 n2 ∧ g = K - n2 ∧ 1 ≤ n2 ∧ r2 ≤ 900 ∧ n2 < 10 * K ∧ Hid (nd ≤ r2 ∧ n2 = numP D nd r2 ∧ numP D nd (r2 - 1) < K))
        case atStart => 
          obtain ⟨b0, b1, b2, b3⟩ := unhide hst
          exact ⟨rfl, nd, n1, rfl, rfl, rfl, b0, by omega, b2, Nat.le_refl _, b1, b3⟩
        case round =>
          obtain ⟨rfl, r2, n2, rfl, rfl, rfl, hn2, hr2, hn2b, hrel⟩ := hrel
          by_cases hm : n2 < K
          · have hq2 : (n2 : Int) / (K : Int) = 0 := Int.ediv_eq_zero_of_lt (by omega) (by omega)
            go_wp2
            go_roundg (K - n2 * 10)
            case measure => omega
            case rel =>
              obtain ⟨b0, b1, b2⟩ := unhide hrel
              have hr19 := unhide hrb r2 (by omega) (by omega)
              refine ⟨rfl, r2 + 1, n2 * 10, rfl, rfl, rfl, by omega, by omega, by omega, by omega, ?_, ?_⟩
              · rw [numP_succ' b0, b1]
              · rw [Nat.add_sub_cancel, ← b1]; exact hm
          · have hq2 : ((n2 : Int) / (K : Int) == 0) = false := by
              have : 1 ≤ n2 / K := by rw [Nat.le_div_iff_mul_le hKp]; omega
              have e : (n2 : Int) / (K : Int) = ((n2 / K : Nat) : Int) := by simp
              rw [e]; exact beq_eq_false_iff_ne.2 (by omega)
            have hF : Hid (n2 = numP D nd r2 ∧ numP D nd (r2 - 1) < K) := (unhide hrel).2
            have hnb := hn2b
            clear hst hn0 hrel
            have hr1 : 1 ≤ r2 := by
              by_cases h : r2 = 0
              · exfalso
                have := (unhide hF).1
                rw [h, numP_le (by omega)] at this
                have e : num D 0 = 0 := rfl
                omega
              · omega
            have hr20 : r2 ≤ 20 := by
              by_cases h : r2 = 1
              · omega
              · have := unhide hrb (r2 - 1) (by omega) (unhide hF).2
                omega
            have hge : K ≤ n2 := by omega
            have e801 := (unhide hA).1.dp
            have e801f := (unhide hA).1.free 801
            have e800f := (unhide hA).1.free 800
            have hw2 : IntKind.u64.wrap (K : Int) = (K : Int) := by rw [IntKind.wrap_u64]; omega
            obtain ⟨M, hM⟩ : ∃ M, M = K - 1 := ⟨_, rfl⟩
            have hM1 : (K : Int) - 1 = (M : Int) := by omega
            have hMb : M < 1152921504606846976 := by omega
            have hdr : (r2 : Int) - 1 = ((r2 - 1 : Nat) : Int) := by omega
            obtain ⟨d2, hd2⟩ : ∃ d2 : Int, d2 = dp - ((r2 - 1 : Nat) : Int) := ⟨_, rfl⟩
            have hd2' : dp - ((r2 - 1 : Nat) : Int) = d2 := hd2.symm
            have hd3 : -200000 ≤ d2 := by omega
            have hd4 : d2 ≤ 200000 := by omega
            have hG : Hid (d2 = dp - ((r2 - 1 : Nat) : Int) ∧ M = K - 1) := ⟨hd2, hM⟩
            clear hd2 hM
            go_wp2
            clear e801 e801f e800f hw2 hM1 hdr hd2' hdp
            go_loopg [4, 5, 6] (nd - r2) (fun g r v n wr => ∃ rr v1 nn : Nat, r = .int .i64 rr ∧ v = .int .i64 v1 ∧ n = .int .u64 nn ∧ g = nd - rr ∧ rr ≤ 820 ∧ v1 ≤ 800 ∧ nn < 10 * K ∧ Hid (rr = r2 + v1 ∧ (v1 = 0 ∨ rr ≤ nd) ∧ nn = numP D nd rr % (10 * K) ∧ ∃ D', RI w wr N D nd d2 K r2 v1 D' tr))
            case atStart =>
              obtain ⟨a1, a2, a3⟩ := unhide hA
              obtain ⟨f1, f2⟩ := unhide hF
              refine ⟨r2, 0, n2, rfl, rfl, rfl, rfl, by omega, by omega, hnb, rfl, Or.inl rfl, ?_, D, a1.set_dp d2, fun _ _ => rfl, ?_, fun i hi => absurd hi (by omega), fun h => absurd h (by omega), (Below.refl N w).setCell (Nat.le_refl N) _⟩
              · rw [← f1, Nat.mod_eq_of_lt hnb]
              · rw [Nat.add_zero, ← f1, Nat.div_eq_of_lt hnb]; rfl
            case round =>
              obtain ⟨rr, v1, nn, rfl, rfl, rfl, rfl, hrr, hv1, hnn, hrel⟩ := hrel
              obtain ⟨i1, i2, i3, D', hI⟩ := unhide hrel
              clear hrel
              have c800 := hI.dec.nd
              by_cases hlt : rr < nd
              · have hltd : decide (rr < nd) = true := decide_eq_true hlt
                have hcell := hI.dec.d rr (by omega)
                rw [hI.old rr (by omega)] at hcell
                have hdg := (unhide hA).2.1 rr hlt
                obtain ⟨x, hx⟩ : ∃ x, D rr = x := ⟨_, rfl⟩
                rw [hx] at hcell hdg
                have hx1 := hdg.1
                have hx2 := hdg.2
                obtain ⟨dg, hdgq⟩ : ∃ dg, dg = nn / K := ⟨_, rfl⟩
                obtain ⟨lo, hlo⟩ : ∃ lo, lo = nn % K := ⟨_, rfl⟩
                have hdg' : (nn : Int) / (K : Int) = (dg : Int) := by rw [hdgq]; simp
                have hdgb : dg < 10 := by rw [hdgq, Nat.div_lt_iff_lt_mul hKp]; exact hnn
                have hlob : lo < K := by rw [hlo]; exact Nat.mod_lt _ hKp
                have hand : bits BinOp.and IntKind.u64 (nn : Int) (M : Int) = (lo : Int) := by
                  rw [bits_and_u64_nat _ _ (by omega) (by omega), (unhide hG).2, ← unhide hKK, Nat.and_two_pow_sub_one_eq_mod, unhide hKK, hlo]
                have hcv := hI.dec.d v1 (by omega)
                have hfv := hI.dec.free v1
                have hs := numP_succ (D := D) (nd := nd) (r := rr) hlt
                have key := hI.store (x - 48) dg hKp (by omega) (by rw [← i1]; rw [hs, hx]) (by omega) (by rw [← (unhide hF).1]; exact hge) (by rw [← (unhide hF).1]; exact hnb) (by rw [← i1, ← i3]; exact hdgq)
                have hnx : lo * 10 + x - 48 = numP D nd (rr + 1) % (10 * K) := by
                  rw [hs, hx, (rs_step (numP D nd rr) K (x - 48) hKp (by omega)).2, ← i3, ← hlo]; omega
                have hB : Hid (rr = r2 + v1 ∧ RI w (wr.setCell ⟨N, v1, none⟩ (.int .u8 ((dg + 48 : Nat) : Int))) N D nd d2 K r2 (v1 + 1) (fun i => if i = v1 then dg + 48 else D' i) tr ∧ lo * 10 + x - 48 = numP D nd (rr + 1) % (10 * K)) := ⟨i1, key, hnx⟩
                have hvlt : v1 < 800 := by omega
                clear key hnx hs hI i1 i2 i3 hx hdg hdgq hlo
                go_wp2
                go_roundg (nd - (rr + 1))
                case measure => omega
                case rel =>
                  obtain ⟨b1, b2, b3⟩ := unhide hB
                  have e2 : ((dg : Int) + 48) = ((dg + 48 : Nat) : Int) := by omega
                  rw [← e2] at b2
                  exact ⟨rr + 1, v1 + 1, lo * 10 + x - 48, rfl, rfl, by congr 2; omega, rfl, by omega, by omega, by omega, by omega, Or.inr (by omega), b3, _, b2⟩
              · have hltd : decide (rr < nd) = false := decide_eq_false hlt
                have hB : Hid (rr = r2 + v1 ∧ nn = numP D nd rr % (10 * K) ∧ ∃ D', RI w wr N D nd d2 K r2 v1 D' tr) := ⟨i1, i3, D', hI⟩
                clear i1 i2 i3 hI
                go_wp2
                clear c800
                go_loopg [5, 6] (nd + k + 1 - rr) (fun g v n wr => ∃ v2 n3 : Nat, v = .int .i64 v2 ∧ n = .int .u64 n3 ∧ v2 ≤ 800 ∧ n3 < 10 * K ∧ Hid (∃ t, g = nd + k + 1 - (r2 + t) ∧ v2 ≤ t ∧ (v2 < 800 → v2 = t) ∧ n3 = numP D nd (r2 + t) % (10 * K) ∧ nd ≤ r2 + t ∧ ∃ D' tr', RI w wr N D nd d2 K r2 v2 D' tr'))
                case atStart =>
                  obtain ⟨b1, b2, D', b3⟩ := unhide hB
                  exact ⟨v1, nn, rfl, rfl, hv1, hnn, v1, by rw [b1], Nat.le_refl _, fun _ => rfl, by rw [← b1]; exact b2, by omega, D', tr, b3⟩
                case round =>
                  clear hB
                  obtain ⟨v2, n3, rfl, rfl, hv2, hn3, hrel⟩ := hrel
                  obtain ⟨t, j1, j2, j3, j4, j5, D', tr', hI⟩ := unhide hrel
                  clear hrel
                  by_cases hz : n3 = 0
                  · have hz' : decide (0 < n3) = false := decide_eq_false (by omega)
                    have hv1' : 1 ≤ v2 := by
                      by_cases h : v2 = 0
                      · exfalso
                        have ht := j3 (by omega)
                        rw [← ht, h, Nat.add_zero, ← (unhide hF).1, Nat.mod_eq_of_lt hnb] at j4
                        omega
                      · omega
                    have hpad := rs_end (D := D) (D' := D') (nd := nd) (r0 := r2) (w := v2) (K := K) hKp h2 hr1 hv2 hI.val (fun h => by rw [j3 h]; exact ⟨j5, by rw [← j4]; exact hz⟩)
                    have c800 := hI.dec.nd
                    have f800 := hI.dec.free 800
                    have hB : Hid (RI w wr N D nd d2 K r2 v2 D' tr' ∧ pad D' v2 = pad D nd * 10 ^ (r2 - 1) / K) := ⟨hI, hpad⟩
                    clear hpad hI j1 j2 j3 j4 j5
                    go_wp2_with fail
                    obtain ⟨b1, b2⟩ := unhide hB
                    refine (c80 _ N D' v2 d2 tr' (b1.dec.set_nd v2) hv1' hv2 (b1.lead (by omega))).mono ?_
                    rintro e w1 ⟨rfl, n2', c1, c2, c3, c4, c5⟩
                    go_wp2_with fail
                    go_end0
                    have hd2 := (unhide hG).1
                    rw [hd2] at c1
                    exact ⟨rfl, D', n2', tr', r2, c1, c2, by omega, fun i hi => b1.dig i (by omega), b1.lead (by omega), hr1, hr20, c4.trans b2, Below.trans (b1.bel.setCell (Nat.le_refl N) _) c5⟩
                  · have hz' : decide (0 < n3) = true := decide_eq_true (by omega)
                    have hgt : r2 + t < nd + k + 1 := by
                      by_cases h : r2 + t < nd + k + 1
                      · exact h
                      · exfalso; apply hz
                        rw [j4, ← unhide hKK]; exact numP_zero (by omega)
                    obtain ⟨dg, hdgq⟩ : ∃ dg, dg = n3 / K := ⟨_, rfl⟩
                    obtain ⟨lo, hlo⟩ : ∃ lo, lo = n3 % K := ⟨_, rfl⟩
                    have hdg' : (n3 : Int) / (K : Int) = (dg : Int) := by rw [hdgq]; simp
                    have hdgb : dg < 10 := by rw [hdgq, Nat.div_lt_iff_lt_mul hKp]; exact hn3
                    have hlob : lo < K := by rw [hlo]; exact Nat.mod_lt _ hKp
                    have hand : bits BinOp.and IntKind.u64 (n3 : Int) (M : Int) = (lo : Int) := by
                      rw [bits_and_u64_nat _ _ (by omega) (by omega), (unhide hG).2, ← unhide hKK, Nat.and_two_pow_sub_one_eq_mod, unhide hKK, hlo]
                    have hs := numP_succ' (D := D) (nd := nd) (r := r2 + t) j5
                    have hnx : lo * 10 = numP D nd (r2 + t + 1) % (10 * K) := by
                      have := (rs_step (numP D nd (r2 + t)) K 0 hKp (by omega)).2
                      rw [hs, ← Nat.add_zero (numP D nd (r2 + t) * 10), this, ← j4, ← hlo, Nat.add_zero]
                    by_cases hv8 : v2 < 800
                    · have hv8' : decide (v2 < 800) = true := decide_eq_true hv8
                      have hcv := hI.dec.d v2 (by omega)
                      have hfv := hI.dec.free v2
                      have ht := j3 hv8
                      have key := hI.store 0 dg hKp hv8 (by rw [ht, hs, Nat.add_zero]) (by omega) (by rw [← (unhide hF).1]; exact hge) (by rw [← (unhide hF).1]; exact hnb) (by rw [ht, ← j4]; exact hdgq)
                      have hB : Hid (gk = nd + k + 1 - (r2 + t) ∧ r2 + t < nd + k + 1 ∧ v2 = t ∧ nd ≤ r2 + t ∧ RI w (wr.setCell ⟨N, v2, none⟩ (.int .u8 ((dg + 48 : Nat) : Int))) N D nd d2 K r2 (v2 + 1) (fun i => if i = v2 then dg + 48 else D' i) tr' ∧ lo * 10 = numP D nd (r2 + t + 1) % (10 * K)) := ⟨j1, hgt, ht, j5, key, hnx⟩
                      clear key hnx hs hI j1 j2 j3 j4 j5 ht hdgq hlo hgt
                      go_wp2
                      go_roundg (gk - 1)
                      case measure => have := unhide hB; omega
                      case rel =>
                        obtain ⟨b1, b2, b3, b4, b5, b6⟩ := unhide hB
                        have e2 : ((dg : Int) + 48) = ((dg + 48 : Nat) : Int) := by omega
                        rw [← e2] at b5
                        exact ⟨v2 + 1, lo * 10, rfl, rfl, by omega, by omega, t + 1, by omega, by omega, fun _ => by omega, b6, by omega, _, _, b5⟩
                    · have hv8' : decide (v2 < 800) = false := decide_eq_false hv8
                      have f803 := hI.dec.free 803
                      have c803 := hI.dec.tr
                      have hB : Hid (gk = nd + k + 1 - (r2 + t) ∧ r2 + t < nd + k + 1 ∧ v2 ≤ t ∧ nd ≤ r2 + t ∧ RI w wr N D nd d2 K r2 v2 D' tr' ∧ lo * 10 = numP D nd (r2 + t + 1) % (10 * K)) := ⟨j1, hgt, j2, j5, hI, hnx⟩
                      clear hnx hs hI j1 j2 j3 j4 j5 hdgq hlo hgt
                      by_cases hd0 : 0 < dg
                      · have hd0' : decide (0 < dg) = true := decide_eq_true hd0
                        go_wp2
                        go_roundg (gk - 1)
                        case measure => have := unhide hB; omega
                        case rel =>
                          obtain ⟨b1, b2, b3, b4, b5, b6⟩ := unhide hB
                          exact ⟨v2, lo * 10, rfl, rfl, by omega, by omega, t + 1, by omega, by omega, fun h => absurd h hv8, b6, by omega, _, _, b5.flag⟩
                      · have hd0' : decide (0 < dg) = false := decide_eq_false hd0
                        go_wp2
                        go_roundg (gk - 1)
                        case measure => have := unhide hB; omega
                        case rel =>
                          obtain ⟨b1, b2, b3, b4, b5, b6⟩ := unhide hB
                          exact ⟨v2, lo * 10, rfl, rfl, by omega, by omega, t + 1, by omega, by omega, fun h => absurd h hv8, b6, by omega, _, _, b5⟩
    · have hq2 : ((n1 : Int) / (K : Int) == 0) = false := by
        have : 1 ≤ n1 / K := by rw [Nat.le_div_iff_mul_le hKp]; omega
        have e : (n1 : Int) / (K : Int) = ((n1 / K : Nat) : Int) := by simp
        rw [e]; exact beq_eq_false_iff_ne.2 (by omega)
      have hF : Hid (n1 = numP D nd r1 ∧ numP D nd (r1 - 1) < K) := by
        refine ⟨by rw [numP_le (by omega)]; exact e1, ?_⟩
        by_cases h : r1 = 0
        · rw [h] at e1; have e : num D 0 = 0 := rfl; omega
        · exact e3 (by omega)
      have hnb := e2
      clear e1 e2 e3
      have hr1 : 1 ≤ r1 := by
        by_cases h : r1 = 0
        · exfalso
          have := (unhide hF).1
          rw [h, numP_le (by omega)] at this
          have e : num D 0 = 0 := rfl
          omega
        · omega
      have hr20 : r1 ≤ 20 := by
        by_cases h : r1 = 1
        · omega
        · have := unhide hrb (r1 - 1) (by omega) (unhide hF).2
          omega
      have hge : K ≤ n1 := by omega
      have e801 := (unhide hA).1.dp
      have e801f := (unhide hA).1.free 801
      have e800f := (unhide hA).1.free 800
      have hw2 : IntKind.u64.wrap (K : Int) = (K : Int) := by rw [IntKind.wrap_u64]; omega
      obtain ⟨M, hM⟩ : ∃ M, M = K - 1 := ⟨_, rfl⟩
      have hM1 : (K : Int) - 1 = (M : Int) := by omega
      have hMb : M < 1152921504606846976 := by omega
      have hdr : (r1 : Int) - 1 = ((r1 - 1 : Nat) : Int) := by omega
      obtain ⟨d2, hd2⟩ : ∃ d2 : Int, d2 = dp - ((r1 - 1 : Nat) : Int) := ⟨_, rfl⟩
      have hd2' : dp - ((r1 - 1 : Nat) : Int) = d2 := hd2.symm
      have hd3 : -200000 ≤ d2 := by omega
      have hd4 : d2 ≤ 200000 := by omega
      have hG : Hid (d2 = dp - ((r1 - 1 : Nat) : Int) ∧ M = K - 1) := ⟨hd2, hM⟩
      clear hd2 hM
      go_wp2
      clear e801 e801f e800f hw2 hM1 hdr hd2' hdp
      go_loopg [4, 5, 6] (nd - r1) (fun g r v n wr => ∃ rr v1 nn : Nat, r = .int .i64 rr ∧ v = .int .i64 v1 ∧ n = .int .u64 nn ∧ g = nd - rr ∧ rr ≤ 820 ∧ v1 ≤ 800 ∧ nn < 10 * K ∧ Hid (rr = r1 + v1 ∧ (v1 = 0 ∨ rr ≤ nd) ∧ nn = numP D nd rr % (10 * K) ∧ ∃ D', RI w wr N D nd d2 K r1 v1 D' tr))
      case atStart =>
        obtain ⟨a1, a2, a3⟩ := unhide hA
        obtain ⟨f1, f2⟩ := unhide hF
        refine ⟨r1, 0, n1, rfl, rfl, rfl, rfl, by omega, by omega, hnb, rfl, Or.inl rfl, ?_, D, a1.set_dp d2, fun _ _ => rfl, ?_, fun i hi => absurd hi (by omega), fun h => absurd h (by omega), (Below.refl N w).setCell (Nat.le_refl N) _⟩
        · rw [← f1, Nat.mod_eq_of_lt hnb]
        · rw [Nat.add_zero, ← f1, Nat.div_eq_of_lt hnb]; rfl
      case round =>
        obtain ⟨rr, v1, nn, rfl, rfl, rfl, rfl, hrr, hv1, hnn, hrel⟩ := hrel
        obtain ⟨i1, i2, i3, D', hI⟩ := unhide hrel
        clear hrel
        have c800 := hI.dec.nd
        by_cases hlt : rr < nd
        · have hltd : decide (rr < nd) = true := decide_eq_true hlt
          have hcell := hI.dec.d rr (by omega)
          rw [hI.old rr (by omega)] at hcell
          have hdg := (unhide hA).2.1 rr hlt
          obtain ⟨x, hx⟩ : ∃ x, D rr = x := ⟨_, rfl⟩
          rw [hx] at hcell hdg
          have hx1 := hdg.1
          have hx2 := hdg.2
          obtain ⟨dg, hdgq⟩ : ∃ dg, dg = nn / K := ⟨_, rfl⟩
          obtain ⟨lo, hlo⟩ : ∃ lo, lo = nn % K := ⟨_, rfl⟩
          have hdg' : (nn : Int) / (K : Int) = (dg : Int) := by rw [hdgq]; simp
          have hdgb : dg < 10 := by rw [hdgq, Nat.div_lt_iff_lt_mul hKp]; exact hnn
          have hlob : lo < K := by rw [hlo]; exact Nat.mod_lt _ hKp
          have hand : bits BinOp.and IntKind.u64 (nn : Int) (M : Int) = (lo : Int) := by
            rw [bits_and_u64_nat _ _ (by omega) (by omega), (unhide hG).2, ← unhide hKK, Nat.and_two_pow_sub_one_eq_mod, unhide hKK, hlo]
          have hcv := hI.dec.d v1 (by omega)
          have hfv := hI.dec.free v1
          have hs := numP_succ (D := D) (nd := nd) (r := rr) hlt
          have key := hI.store (x - 48) dg hKp (by omega) (by rw [← i1]; rw [hs, hx]) (by omega) (by rw [← (unhide hF).1]; exact hge) (by rw [← (unhide hF).1]; exact hnb) (by rw [← i1, ← i3]; exact hdgq)
          have hnx : lo * 10 + x - 48 = numP D nd (rr + 1) % (10 * K) := by
            rw [hs, hx, (rs_step (numP D nd rr) K (x - 48) hKp (by omega)).2, ← i3, ← hlo]; omega
          have hB : Hid (rr = r1 + v1 ∧ RI w (wr.setCell ⟨N, v1, none⟩ (.int .u8 ((dg + 48 : Nat) : Int))) N D nd d2 K r1 (v1 + 1) (fun i => if i = v1 then dg + 48 else D' i) tr ∧ lo * 10 + x - 48 = numP D nd (rr + 1) % (10 * K)) := ⟨i1, key, hnx⟩
          have hvlt : v1 < 800 := by omega
          clear key hnx hs hI i1 i2 i3 hx hdg hdgq hlo
          go_wp2
          go_roundg (nd - (rr + 1))
          case measure => omega
          case rel =>
            obtain ⟨b1, b2, b3⟩ := unhide hB
            have e2 : ((dg : Int) + 48) = ((dg + 48 : Nat) : Int) := by omega
            rw [← e2] at b2
            exact ⟨rr + 1, v1 + 1, lo * 10 + x - 48, rfl, rfl, by congr 2; omega, rfl, by omega, by omega, by omega, by omega, Or.inr (by omega), b3, _, b2⟩
        · have hltd : decide (rr < nd) = false := decide_eq_false hlt
          have hB : Hid (rr = r1 + v1 ∧ nn = numP D nd rr % (10 * K) ∧ ∃ D', RI w wr N D nd d2 K r1 v1 D' tr) := ⟨i1, i3, D', hI⟩
          clear i1 i2 i3 hI
          go_wp2
          clear c800
          go_loopg [5, 6] (nd + k + 1 - rr) (fun g v n wr => ∃ v2 n3 : Nat, v = .int .i64 v2 ∧ n = .int .u64 n3 ∧ v2 ≤ 800 ∧ n3 < 10 * K ∧ Hid (∃ t, g = nd + k + 1 - (r1 + t) ∧ v2 ≤ t ∧ (v2 < 800 → v2 = t) ∧ n3 = numP D nd (r1 + t) % (10 * K) ∧ nd ≤ r1 + t ∧ ∃ D' tr', RI w wr N D nd d2 K r1 v2 D' tr'))
          case atStart =>
            obtain ⟨b1, b2, D', b3⟩ := unhide hB
            exact ⟨v1, nn, rfl, rfl, hv1, hnn, v1, by rw [b1], Nat.le_refl _, fun _ => rfl, by rw [← b1]; exact b2, by omega, D', tr, b3⟩
          case round =>
            clear hB
            obtain ⟨v2, n3, rfl, rfl, hv2, hn3, hrel⟩ := hrel
            obtain ⟨t, j1, j2, j3, j4, j5, D', tr', hI⟩ := unhide hrel
            clear hrel
            by_cases hz : n3 = 0
            · have hz' : decide (0 < n3) = false := decide_eq_false (by omega)
              have hv1' : 1 ≤ v2 := by
                by_cases h : v2 = 0
                · exfalso
                  have ht := j3 (by omega)
                  rw [← ht, h, Nat.add_zero, ← (unhide hF).1, Nat.mod_eq_of_lt hnb] at j4
                  omega
                · omega
              have hpad := rs_end (D := D) (D' := D') (nd := nd) (r0 := r1) (w := v2) (K := K) hKp h2 hr1 hv2 hI.val (fun h => by rw [j3 h]; exact ⟨j5, by rw [← j4]; exact hz⟩)
              have c800 := hI.dec.nd
              have f800 := hI.dec.free 800
              have hB : Hid (RI w wr N D nd d2 K r1 v2 D' tr' ∧ pad D' v2 = pad D nd * 10 ^ (r1 - 1) / K) := ⟨hI, hpad⟩
              clear hpad hI j1 j2 j3 j4 j5
              go_wp2_with fail
              obtain ⟨b1, b2⟩ := unhide hB
              refine (c80 _ N D' v2 d2 tr' (b1.dec.set_nd v2) hv1' hv2 (b1.lead (by omega))).mono ?_
              rintro e w1 ⟨rfl, n2', c1, c2, c3, c4, c5⟩
              go_wp2_with fail
              go_end0
              have hd2 := (unhide hG).1
              rw [hd2] at c1
              exact ⟨rfl, D', n2', tr', r1, c1, c2, by omega, fun i hi => b1.dig i (by omega), b1.lead (by omega), hr1, hr20, c4.trans b2, Below.trans (b1.bel.setCell (Nat.le_refl N) _) c5⟩
            · have hz' : decide (0 < n3) = true := decide_eq_true (by omega)
              have hgt : r1 + t < nd + k + 1 := by
                by_cases h : r1 + t < nd + k + 1
                · exact h
                · exfalso; apply hz
                  rw [j4, ← unhide hKK]; exact numP_zero (by omega)
              obtain ⟨dg, hdgq⟩ : ∃ dg, dg = n3 / K := ⟨_, rfl⟩
              obtain ⟨lo, hlo⟩ : ∃ lo, lo = n3 % K := ⟨_, rfl⟩
              have hdg' : (n3 : Int) / (K : Int) = (dg : Int) := by rw [hdgq]; simp
              have hdgb : dg < 10 := by rw [hdgq, Nat.div_lt_iff_lt_mul hKp]; exact hn3
              have hlob : lo < K := by rw [hlo]; exact Nat.mod_lt _ hKp
              have hand : bits BinOp.and IntKind.u64 (n3 : Int) (M : Int) = (lo : Int) := by
                rw [bits_and_u64_nat _ _ (by omega) (by omega), (unhide hG).2, ← unhide hKK, Nat.and_two_pow_sub_one_eq_mod, unhide hKK, hlo]
              have hs := numP_succ' (D := D) (nd := nd) (r := r1 + t) j5
              have hnx : lo * 10 = numP D nd (r1 + t + 1) % (10 * K) := by
                have := (rs_step (numP D nd (r1 + t)) K 0 hKp (by omega)).2
                rw [hs, ← Nat.add_zero (numP D nd (r1 + t) * 10), this, ← j4, ← hlo, Nat.add_zero]
              by_cases hv8 : v2 < 800
              · have hv8' : decide (v2 < 800) = true := decide_eq_true hv8
                have hcv := hI.dec.d v2 (by omega)
                have hfv := hI.dec.free v2
                have ht := j3 hv8
                have key := hI.store 0 dg hKp hv8 (by rw [ht, hs, Nat.add_zero]) (by omega) (by rw [← (unhide hF).1]; exact hge) (by rw [← (unhide hF).1]; exact hnb) (by rw [ht, ← j4]; exact hdgq)
                have hB : Hid (gk = nd + k + 1 - (r1 + t) ∧ r1 + t < nd + k + 1 ∧ v2 = t ∧ nd ≤ r1 + t ∧ RI w (wr.setCell ⟨N, v2, none⟩ (.int .u8 ((dg + 48 : Nat) : Int))) N D nd d2 K r1 (v2 + 1) (fun i => if i = v2 then dg + 48 else D' i) tr' ∧ lo * 10 = numP D nd (r1 + t + 1) % (10 * K)) := ⟨j1, hgt, ht, j5, key, hnx⟩
                clear key hnx hs hI j1 j2 j3 j4 j5 ht hdgq hlo hgt
                go_wp2
                go_roundg (gk - 1)
                case measure => have := unhide hB; omega
                case rel =>
                  obtain ⟨b1, b2, b3, b4, b5, b6⟩ := unhide hB
                  have e2 : ((dg : Int) + 48) = ((dg + 48 : Nat) : Int) := by omega
                  rw [← e2] at b5
                  exact ⟨v2 + 1, lo * 10, rfl, rfl, by omega, by omega, t + 1, by omega, by omega, fun _ => by omega, b6, by omega, _, _, b5⟩
              · have hv8' : decide (v2 < 800) = false := decide_eq_false hv8
                have f803 := hI.dec.free 803
                have c803 := hI.dec.tr
                have hB : Hid (gk = nd + k + 1 - (r1 + t) ∧ r1 + t < nd + k + 1 ∧ v2 ≤ t ∧ nd ≤ r1 + t ∧ RI w wr N D nd d2 K r1 v2 D' tr' ∧ lo * 10 = numP D nd (r1 + t + 1) % (10 * K)) := ⟨j1, hgt, j2, j5, hI, hnx⟩
                clear hnx hs hI j1 j2 j3 j4 j5 hdgq hlo hgt
                by_cases hd0 : 0 < dg
                · have hd0' : decide (0 < dg) = true := decide_eq_true hd0
                  go_wp2
                  go_roundg (gk - 1)
                  case measure => have := unhide hB; omega
                  case rel =>
                    obtain ⟨b1, b2, b3, b4, b5, b6⟩ := unhide hB
                    exact ⟨v2, lo * 10, rfl, rfl, by omega, by omega, t + 1, by omega, by omega, fun h => absurd h hv8, b6, by omega, _, _, b5.flag⟩
                · have hd0' : decide (0 < dg) = false := decide_eq_false hd0
                  go_wp2
                  go_roundg (gk - 1)
                  case measure => have := unhide hB; omega
                  case rel =>
                    obtain ⟨b1, b2, b3, b4, b5, b6⟩ := unhide hB
                    exact ⟨v2, lo * 10, rfl, rfl, by omega, by omega, t + 1, by omega, by omega, fun h => absurd h hv8, b6, by omega, _, _, b5⟩
end Go.Proofs.Qxb6600776aDoor
