import Derived.Test.Qxb6600776aDoorLeft
set_option linter.unusedSimpArgs false
set_option linter.unusedVariables false
namespace Go.Proofs.Qxb6600776aDoor
open Go.RowKit

/-- What the left shift's two loops keep: j digits are still to be read, the write index stands at v. -/
structure LInv (w wr : World) (N : Nat) (D : Nat → Nat) (nd : Nat) (dp : Int) (M T v : Nat) (D' : Nat → Nat) (tr' : Bool) (j : Nat) : Prop where
  dec : Dec wr N D' nd dp tr'
  old : ∀ i, i < j → D' i = D i
  new : ∀ i, v ≤ i → i < M → i < 800 → D' i = 48 + T / 10 ^ (M - 1 - i) % 10
  bel : Below N w wr

theorem LInv.store {w wr : World} {N : Nat} {D : Nat → Nat} {nd : Nat} {dp : Int} {M T v : Nat} {D' : Nat → Nat} {tr' : Bool} {j j' : Nat} (h : LInv w wr N D nd dp M T (v + 1) D' tr' j)
    (x : Nat) (hv : v < 800) (hj : j' ≤ j) (hjv : j' ≤ v) (hx : x = 48 + T / 10 ^ (M - 1 - v) % 10) :
    LInv w (wr.setCell ⟨N, v, none⟩ (.int .u8 x)) N D nd dp M T v (fun i => if i = v then x else D' i) tr' j' where
  dec := h.dec.set_d v x hv
  old := fun i hi => by have : i ≠ v := by omega
                        simp only [this, if_false]; exact h.old i (by omega)
  new := fun i a b c => by
    by_cases e : i = v
    · simp only [e, if_true]; exact hx
    · simp only [e, if_false]; exact h.new i (by omega) b c
  bel := h.bel.setCell (Nat.le_refl N) _
theorem LInv.skip {w wr : World} {N : Nat} {D : Nat → Nat} {nd : Nat} {dp : Int} {M T v : Nat} {D' : Nat → Nat} {tr' : Bool} {j j' : Nat} (h : LInv w wr N D nd dp M T (v + 1) D' tr' j)
    (hv : 800 ≤ v) (hj : j' ≤ j) : LInv w wr N D nd dp M T v D' tr' j' where
  dec := h.dec
  old := fun i hi => h.old i (by omega)
  new := fun i a b c => absurd c (by omega)
  bel := h.bel
theorem LInv.flag {w wr : World} {N : Nat} {D : Nat → Nat} {nd : Nat} {dp : Int} {M T v : Nat} {D' : Nat → Nat} {tr' : Bool} {j : Nat} (h : LInv w wr N D nd dp M T v D' tr' j) :
    LInv w (wr.setCell ⟨N, 803, none⟩ (.bool true)) N D nd dp M T v D' true j where
  dec := h.dec.set_tr true
  old := h.old
  new := h.new
  bel := h.bel.setCell (Nat.le_refl N) _

theorem ls_end {D D' : Nat → Nat} {nd dl k T n' : Nat} (h2 : nd ≤ 800) (h1 : 1 ≤ nd) (hT : num D nd * 2 ^ k = T) (hT1 : 10 ^ (nd + dl - 1) ≤ T) (hT2 : T < 10 ^ (nd + dl))
    (hn : ∀ i, 0 ≤ i → i < nd + dl → i < 800 → D' i = 48 + T / 10 ^ (nd + dl - 1 - i) % 10) (hn' : n' = if nd + dl < 800 then nd + dl else 800) :
    Dig D' n' ∧ 49 ≤ D' 0 ∧ pad D' n' = pad D nd * 2 ^ k / 10 ^ dl := by
  have hle : n' ≤ nd + dl := by rw [hn']; split <;> omega
  have hle8 : n' ≤ 800 := by rw [hn']; split <;> omega
  have hnum := num_of_digits (D := D') hT2 n' hle (fun i hi => hn i (by omega) (by omega) (by omega))
  refine ⟨fun i hi => ?_, ?_, ?_⟩
  · rw [hn i (by omega) (by omega) (by omega)]; omega
  · rw [hn 0 (by omega) (by omega) (by omega), Nat.sub_zero]
    have e : nd + dl = (nd + dl - 1) + 1 := by omega
    rw [e, Nat.pow_succ] at hT2
    have hp : 0 < 10 ^ (nd + dl - 1) := Nat.pow_pos (by omega)
    have u1 : 1 ≤ T / 10 ^ (nd + dl - 1) := (Nat.le_div_iff_mul_le hp).2 (by omega)
    have u2 : T / 10 ^ (nd + dl - 1) < 10 := (Nat.div_lt_iff_lt_mul hp).2 (by omega)
    omega
  · have e0 : pad D nd * 2 ^ k = T * 10 ^ (800 - nd) := by rw [pad, ← hT]; simp only [Nat.mul_assoc, Nat.mul_comm, Nat.mul_left_comm]
    rw [e0, pad, hnum]
    by_cases h : nd + dl < 800
    · rw [if_pos h] at hn'
      subst hn'
      have e1 : 800 - nd = (800 - (nd + dl)) + dl := by omega
      rw [Nat.sub_self, Nat.pow_zero, Nat.div_one, e1, Nat.pow_add, ← Nat.mul_assoc, Nat.mul_div_cancel _ (Nat.pow_pos (by omega))]
    · rw [if_neg h] at hn'
      subst hn'
      have e1 : dl = (nd + dl - 800) + (800 - nd) := by omega
      have e2 : (10:Nat) ^ dl = 10 ^ (nd + dl - 800) * 10 ^ (800 - nd) := by rw [← Nat.pow_add]; congr 1
      rw [Nat.sub_self, Nat.pow_zero, Nat.mul_one, e2, Nat.mul_div_mul_right _ _ (Nat.pow_pos (by omega))]

set_option maxRecDepth 100000 in
set_option maxHeartbeats 2000000 in
theorem c72a (w : World) (N : Nat) (D : Nat → Nat) (nd : Nat) (dp : Int) (tr : Bool) (k d0 dl g o c : Nat) (s : ByteArray) (S : Nat → Nat) (lt : Bool)
    (hD : Dec w N D nd dp tr) (h1 : 1 ≤ nd) (h2 : nd ≤ 800) (hdp : -100000 ≤ dp ∧ dp ≤ 100000) (hk1 : 1 ≤ k) (hk2 : k ≤ 60) (hdig : Dig D nd) (h0 : 49 ≤ D 0)
    (hg : w.cell? ⟨10, 0, none⟩ = some (.slice (some ⟨g, o, none⟩) 61 c)) (hg1 : w.cell? ⟨g, o + k * 2, none⟩ = some (.int .i64 d0)) (hg2 : w.cell? ⟨g, o + k * 2 + 1, none⟩ = some (.string s))
    (hd0 : 1 ≤ d0) (hd1 : d0 ≤ 60) (hc79 : ∀ n, Calls Tryd.prog 79 #[.slice (some ⟨N, 0, none⟩) nd 800, .string s] (w.drewN n) fun e w' => e = .returned (.bool lt) ∧ ∃ m, w' = (w.drewN n).drewN m)
    (hdl : dl = if lt then d0 - 1 else d0) (hT1 : 10 ^ (nd + dl - 1) ≤ num D nd * 2 ^ k) (hT2 : num D nd * 2 ^ k < 10 ^ (nd + dl)) :
    Calls Tryd.prog 72 #[.pointer (some ⟨N, 0, none⟩), .int .u64 k] w fun e w' => e = .returned (.tuple #[]) ∧ ∃ D' nd' tr', Dec w' N D' nd' (dp + dl) tr' ∧ 1 ≤ nd' ∧ nd' ≤ 800 ∧ Dig D' nd' ∧ 49 ≤ D' 0 ∧ pad D' nd' = pad D nd * 2 ^ k / 10 ^ dl ∧ Below N w w' := by
  obtain ⟨T, hT⟩ : ∃ T, num D nd * 2 ^ k = T := ⟨_, rfl⟩
  obtain ⟨K, hK⟩ : ∃ K, 2 ^ k = K := ⟨_, rfl⟩
  have hnd := hD.nd
  have hA : Hid (Dec w N D nd dp tr ∧ Dig D nd ∧ 49 ≤ D 0 ∧ 10 ^ (nd + dl - 1) ≤ T ∧ T < 10 ^ (nd + dl)) := ⟨hD, hdig, h0, hT ▸ hT1, hT ▸ hT2⟩
  have hsl := slice_d N nd h2
  have hi : (k : Int) < 61 := by omega
  clear hD hdig h0 hT1 hT2
  cases lt
  case' true =>
    have hdl' : ((d0 : Int) - 1) = (dl : Int) := by simp at hdl; omega
    have hdb : dl ≤ 60 := by simp at hdl; omega
    clear hdl
    go_enter Tryd.func72, Tryd.ntmps72
    go_wp2
    go_quiet (first | (go_at_call 79; refine Calls.quiet_of (hc79 _)))
    go_wp2
  case' false =>
    have hdl' : d0 = dl := by simp at hdl; omega
    have hdb : dl ≤ 60 := by omega
    rw [hdl'] at hg1
    clear hdl hdl'
    go_enter Tryd.func72, Tryd.ntmps72
    go_wp2
    go_quiet (first | (go_at_call 79; refine Calls.quiet_of (hc79 _)))
    go_wp2
  all_goals
    clear hg hg1 hg2 hc79 hsl hi
    go_loopg [5, 6, 7] nd (fun j r wp n wr => ∃ ri wi n0 : Int, r = .int .i64 ri ∧ wp = .int .i64 wi ∧ n = .int .u64 n0 ∧ Hid (ri = (j : Int) - 1 ∧ wi = ((j + dl : Nat) : Int) ∧ ∃ m : Nat, n0 = m ∧ num D j * K + m = T / 10 ^ (nd - j) ∧ m < K ∧ j ≤ nd ∧ ∃ D' tr', LInv w wr N D nd dp (nd + dl) T (j + dl) D' tr' j))
    case atStart =>
      obtain ⟨a, b, c, d, e⟩ := unhide hA
      refine ⟨_, _, _, rfl, rfl, rfl, rfl, by omega, 0, rfl, ?_, by rw [← hK]; exact Nat.pow_pos (by omega), Nat.le_refl _, D, tr, ⟨a.drewN _, fun _ _ => rfl, fun i h1 h2 _ => absurd h1 (by omega), below_drewN (Below.refl _ _) _⟩⟩
      simp [← hT, hK]
    case round =>
      obtain ⟨ri, wi, n0, rfl, rfl, rfl, hrel⟩ := hrel
      rcases Nat.eq_zero_or_pos gk with rfl | hpos
      · have hr : ¬ (0 ≤ ri) := by have := (unhide hrel).1; omega
        go_wp2
        have hold := hrel
        clear hr hrel
        go_loopg [6, 7] dl (fun t wp n wr => ∃ wi n0 : Int, wp = .int .i64 wi ∧ n = .int .u64 n0 ∧ Hid (wi = (t : Int) ∧ t ≤ dl ∧ ∃ m : Nat, n0 = m ∧ m = T / 10 ^ (nd + dl - t) ∧ m < 1152921504606846976 ∧ ∃ D' tr', LInv w wr N D nd dp (nd + dl) T t D' tr' 0))
        case atStart =>
          obtain ⟨-, a, m, b, c, d, e, D', tr', f⟩ := unhide hold
          rw [Nat.zero_add] at f a
          have hK6 : K ≤ 1152921504606846976 := by
            rw [← hK]; exact Nat.le_trans (Nat.pow_le_pow_right (by omega) hk2) (by decide)
          refine ⟨_, _, rfl, rfl, a, Nat.le_refl _, m, b, ?_, by omega, D', tr', f⟩
          rw [Nat.add_sub_cancel, ← Nat.sub_zero nd, ← c]; simp [num]
        case round =>
          clear hold
          obtain ⟨wi, n0, rfl, rfl, hrel⟩ := hrel
          obtain ⟨hwi, htl, m, rfl, hm1, hm2, D', tr', hI⟩ := unhide hrel
          clear hrel
          by_cases hm0 : m = 0
          · have ht0 : gk = 0 := by
              obtain ⟨-, -, -, a1, a2⟩ := unhide hA
              by_cases h : gk = 0
              · exact h
              · exfalso
                have hp : 0 < 10 ^ (nd + dl - gk) := Nat.pow_pos (by omega)
                have l1 : T < 10 ^ (nd + dl - gk) := by
                  rcases (Nat.div_eq_zero_iff).1 (hm1.symm.trans hm0) with h | h
                  · omega
                  · exact h
                have l2 : 10 ^ (nd + dl - gk) ≤ 10 ^ (nd + dl - 1) := Nat.pow_le_pow_right (by omega) (by omega)
                omega
            subst ht0
            have hm0' : decide (0 < m) = false := decide_eq_false (by omega)
            obtain ⟨n', hn'⟩ : ∃ n', n' = if nd + dl < 800 then nd + dl else 800 := ⟨_, rfl⟩
            have hend := ls_end (D := D) (D' := D') h2 h1 hT (unhide hA).2.2.2.1 (unhide hA).2.2.2.2 (fun i a b c => hI.new i a b c) hn'
            have e0 := hI.dec.nd
            have e1 := hI.dec.dp
            have e2 := hI.dec.free 800
            have e3 := hI.dec.free 801
            have hB : Hid (LInv w wr N D nd dp (nd + dl) T 0 D' tr' 0 ∧ Dig D' n' ∧ 49 ≤ D' 0 ∧ pad D' n' = pad D nd * 2 ^ k / 10 ^ dl) := ⟨hI, hend⟩
            clear hend hI hm1 hm2 hT hK hnd hwi
            by_cases h8 : nd + dl < 800
            · rw [if_pos h8] at hn'
              have h8' : decide (800 ≤ nd + dl) = false := decide_eq_false (by omega)
              go_wp2_with fail
              obtain ⟨b1, b2, b3, b4⟩ := unhide hB
              have hdec := (b1.dec.set_nd (nd + dl)).set_dp (dp + dl)
              simp only [Int.natCast_add] at hdec
              refine (c80 _ N D' (nd + dl) (dp + dl) tr' hdec (by omega) (by omega) b3).mono ?_
              rintro e w1 ⟨rfl, n2, c1, c2, c3, c4, c5⟩
              go_wp2_with fail
              go_end0
              subst hn'
              exact ⟨rfl, D', n2, tr', c1, c2, by omega, fun i hi => b2 i (by omega), b3, c4.trans b4, Below.trans ((b1.bel.setCell (Nat.le_refl N) _).setCell (Nat.le_refl N) _) c5⟩
            · rw [if_neg h8] at hn'
              have h8' : decide (800 ≤ nd + dl) = true := decide_eq_true (by omega)
              go_wp2_with fail
              obtain ⟨b1, b2, b3, b4⟩ := unhide hB
              have hdec := ((b1.dec.set_nd (nd + dl)).set_nd 800).set_dp (dp + dl)
              simp only [Int.natCast_add] at hdec
              refine (c80 _ N D' 800 (dp + dl) tr' hdec (by omega) (by omega) b3).mono ?_
              rintro e w1 ⟨rfl, n2, c1, c2, c3, c4, c5⟩
              go_wp2_with fail
              go_end0
              subst hn'
              exact ⟨rfl, D', n2, tr', c1, c2, by omega, fun i hi => b2 i (by omega), b3, c4.trans b4, Below.trans (((b1.bel.setCell (Nat.le_refl N) _).setCell (Nat.le_refl N) _).setCell (Nat.le_refl N) _) c5⟩
          · obtain ⟨t, rfl⟩ : ∃ t, gk = t + 1 := by
              refine ⟨gk - 1, ?_⟩
              by_cases h : gk = 0
              · subst h; exact absurd (hm1.trans (Nat.div_eq_of_lt (by simpa using (unhide hA).2.2.2.2))) hm0
              · omega
            have hv : wi - 1 = (t : Int) := by omega
            obtain ⟨q, hq⟩ : ∃ q, q = m / 10 := ⟨_, rfl⟩
            obtain ⟨rm, hrm⟩ : ∃ rm, rm = m % 10 := ⟨_, rfl⟩
            have hq' : (m : Int) / 10 = (q : Int) := by omega
            have hr' : (m : Int) - 10 * (q : Int) = (rm : Int) := by omega
            have hrb : rm ≤ 9 := by omega
            have hqb : 10 * q ≤ m := by omega
            have hm0' : decide (0 < m) = true := decide_eq_true (by omega)
            have htb : t < 800 := by omega
            have ht8 : decide (t < 800) = true := decide_eq_true (by omega)
            have hcv := hI.dec.d t (by omega)
            have hfv := hI.dec.free t
            have key := hI.store (j' := 0) (rm + 48) htb (by omega) (by omega) (by
              have e3 : nd + dl - 1 - t = nd + dl - (t + 1) := by omega
              rw [e3, ← hm1]; omega)
            have hqq : q = T / 10 ^ (nd + dl - t) := by
              have e : nd + dl - t = nd + dl - (t + 1) + 1 := by omega
              rw [hq, hm1, e, Nat.pow_succ, Nat.div_div_eq_div_mul]
            have hB : Hid (LInv w (wr.setCell ⟨N, t, none⟩ (.int .u8 ((rm + 48 : Nat) : Int))) N D nd dp (nd + dl) T t (fun i => if i = t then rm + 48 else D' i) tr' 0 ∧ q = T / 10 ^ (nd + dl - t)) := ⟨key, hqq⟩
            clear key hqq hI hq hrm hm1 hwi
            go_wp2
            go_roundg t
            case measure => omega
            case rel =>
              obtain ⟨b1, b2⟩ := unhide hB
              have e2 : ((rm : Int) + 48) = ((rm + 48 : Nat) : Int) := by omega
              rw [← e2] at b1
              exact ⟨_, _, rfl, rfl, rfl, by omega, q, rfl, b2, by omega, _, _, b1⟩
      · obtain ⟨j, rfl⟩ : ∃ j, gk = j + 1 := ⟨gk - 1, by omega⟩
        have hr : ri = (j : Int) := by have := (unhide hrel).1; omega
        obtain ⟨-, hwi, m, rfl, hm1, hm2, hjn, D', tr', hI⟩ := unhide hrel
        clear hrel
        subst hr
        obtain ⟨v, hvv⟩ : ∃ v, v = j + dl := ⟨_, rfl⟩
        have hv : wi - 1 = (v : Int) := by omega
        have hcell := hI.dec.d j (by omega)
        have hdj := hI.old j (by omega)
        have hdg := (unhide hA).2.1 j (by omega)
        obtain ⟨x, hxx⟩ : ∃ x, D' j = x := ⟨_, rfl⟩
        rw [hxx] at hcell
        obtain ⟨c1, hc1⟩ : ∃ c1, c1 = D j - 48 := ⟨_, rfl⟩
        obtain ⟨y, hy⟩ : ∃ y, y = c1 * K := ⟨_, rfl⟩
        have hK6 : K ≤ 1152921504606846976 := by
          rw [← hK]; exact Nat.le_trans (Nat.pow_le_pow_right (by omega) hk2) (by decide)
        have hyb : y ≤ 9 * K := by rw [hy]; exact Nat.mul_le_mul_right _ (by omega)
        obtain ⟨z, hz⟩ : ∃ z, z = y + m := ⟨_, rfl⟩
        have hzb : z < 11529215046068469760 := by omega
        have hx1 : 48 ≤ x := by omega
        have hx2 : x ≤ 57 := by omega
        have hx : (x : Int) - 48 = (c1 : Int) := by omega
        have hcb : c1 ≤ 9 := by omega
        have hmy : m + y < 11529215046068469760 := by omega
        have hsh : IntKind.u64.wrap ((c1 : Int) * 2 ^ k) = (y : Int) := by
          have : (c1 : Int) * 2 ^ k = (y : Int) := by rw [hy, ← hK]; simp
          rw [this, IntKind.wrap_u64]; omega
        have hst := ls_step (N := num D j) (K := K) (c := c1) (n := m) (T := T) (E := 10 ^ (nd - (j + 1))) (by rw [← hm1, hc1]; rfl)
        have hzm : ((m : Int) + (y : Int)) = (z : Int) := by omega
        obtain ⟨q, hq⟩ : ∃ q, q = z / 10 := ⟨_, rfl⟩
        obtain ⟨rm, hrm⟩ : ∃ rm, rm = z % 10 := ⟨_, rfl⟩
        have hq' : (z : Int) / 10 = (q : Int) := by omega
        have hr' : (z : Int) - 10 * (q : Int) = (rm : Int) := by omega
        have hrb : rm ≤ 9 := by omega
        have hqb : 10 * q ≤ z := by omega
        have hcv : v < 800 → ∃ u, wr.cell? ⟨N, v, none⟩ = some u := fun h => ⟨_, hI.dec.d v h⟩
        have hfv := hI.dec.free v
        have hf3 := hI.dec.free 803
        have hc3 := hI.dec.tr
        have hB : Hid (LInv w wr N D nd dp (nd + dl) T (j + 1 + dl) D' tr' (j + 1) ∧ v = j + dl ∧ rm = T / 10 ^ (nd - (j + 1)) % 10 ∧ num D j * K + q = T / 10 ^ (nd - j) ∧ q < K) := by
          refine ⟨hI, hvv, ?_, ?_, ?_⟩
          · rw [hrm, hz, hy]; exact hst.2
          · have e : nd - j = nd - (j + 1) + 1 := by omega
            rw [hq, hz, hy, e, Nat.pow_succ]; exact hst.1
          · omega
        have hvb : v < 900 := by omega
        clear hI hvv hdj hdg hc1 hy hyb hz hst hq hrm hwi hm1 hm2 hK6 hxx hK hT
        by_cases hv8 : v < 800
        · have hv8' : decide (v < 800) = true := decide_eq_true hv8
          obtain ⟨u, hcv⟩ := hcv hv8
          go_wp2
          go_roundg j
          case measure => omega
          case rel =>
            obtain ⟨b1, b2, b3, b4, b5⟩ := unhide hB
            have e : j + 1 + dl = v + 1 := by omega
            have e2 : ((rm : Int) + 48) = ((rm + 48 : Nat) : Int) := by omega
            rw [e] at b1
            have key := b1.store (j' := j) (rm + 48) hv8 (by omega) (by omega) (by
              have e3 : nd + dl - 1 - v = nd - (j + 1) := by omega
              rw [e3, b3]; omega)
            rw [← e2, b2] at key
            rw [b2]
            exact ⟨_, _, _, rfl, rfl, rfl, rfl, by omega, q, rfl, b4, b5, by omega, _, _, key⟩
        · have hv8' : decide (v < 800) = false := decide_eq_false hv8
          by_cases hr0 : rm = 0
          · have hr0' : ((rm : Int) != 0) = false := by simp; omega
            go_wp2
            go_roundg j
            case measure => omega
            case rel =>
              obtain ⟨b1, b2, b3, b4, b5⟩ := unhide hB
              have e : j + 1 + dl = v + 1 := by omega
              rw [e] at b1
              have key := b1.skip (j' := j) (by omega) (by omega)
              rw [b2] at key
              exact ⟨_, _, _, rfl, rfl, rfl, rfl, by omega, q, rfl, b4, b5, by omega, _, _, key⟩
          · have hr0' : ((rm : Int) != 0) = true := by simp; omega
            go_wp2
            go_roundg j
            case measure => omega
            case rel =>
              obtain ⟨b1, b2, b3, b4, b5⟩ := unhide hB
              have e : j + 1 + dl = v + 1 := by omega
              rw [e] at b1
              have key := (b1.skip (j' := j) (by omega) (by omega)).flag
              rw [b2] at key
              exact ⟨_, _, _, rfl, rfl, rfl, rfl, by omega, q, rfl, b4, b5, by omega, _, _, key⟩
end Go.Proofs.Qxb6600776aDoor
