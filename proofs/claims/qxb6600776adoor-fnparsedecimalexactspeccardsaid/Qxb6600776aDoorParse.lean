import Derived.Test.Qxb6600776aDoorScale
import Derived.Lib.ItoaNum
set_option linter.unusedSimpArgs false
set_option linter.unusedVariables false
namespace Go.Proofs.Qxb6600776aDoor
open Go.RowKit Go.Shelf

def lg (p : Int) : Int := p * 108853 / 32768
/-- What pack64 gives: the word, and whether it is out of range. -/
def packV (m : Nat) (e : Int) : Nat × Bool :=
  if m < 4503599627370496 then (m, false) else if 972 ≤ e then (9218868437227405312, true) else ((e + 1075).toNat * 4503599627370496 + (m - 4503599627370496), false)
def rnd (u : Nat) : Nat := (u + 1 + u / 4 % 2) / 4
/-- What the unrounded u and the place e give. -/
def endV (u : Nat) (e : Int) : Nat × Bool :=
  if 36028797018963966 ≤ u then packV (rnd (u / 2 ||| u % 2)) (1 - e) else packV (rnd u) (-e)
def pf64 (d : Nat) (p : Int) : Nat × Bool :=
  let b : Int := Lib.bitLen d
  let e := min 1074 (53 - b - lg p)
  let s := -(e - (64 - b) + lg p + 3)
  if 64 ≤ s then (0, false) else endV (usc (d * 2 ^ (64 - Lib.bitLen d)) (pHi (p + 348).toNat) (pLo (p + 348).toNat) s.toNat) e
def errV (b : Bool) : Value := if b then .iface 41 (.int .i64 1) else .nilIface
def fltV (x : Nat × Bool) : Value := .tuple #[.float .f64 x.1, errV x.2]
theorem fltV_open (x : Nat × Bool) : ∃ fv ev, fltV x = .tuple #[.float .f64 fv, ev] := ⟨x.1, errV x.2, rfl⟩
theorem c69' (m : Nat) (e : Int) (w : World) (hm : m < 9007199254740992) (he : -2000 ≤ e ∧ e ≤ 2000) (hlo : 4503599627370496 ≤ m → -1075 ≤ e) :
    Calls Tryd.prog 69 #[.int .u64 m, .int .i64 e] w fun r w' => r = .returned (fltV (packV m e)) ∧ w' = w := by
  refine (c69 m e w hm he hlo).mono ?_
  rintro r w' ⟨rfl, rfl⟩
  refine ⟨?_, rfl⟩
  unfold packV
  split
  · rfl
  · split <;> rfl

theorem bl_bounds (d : Nat) (h0 : 0 < d) (h : d < 18446744073709551616) : 1 ≤ Lib.bitLen d ∧ Lib.bitLen d ≤ 64 ∧ 2 ^ (Lib.bitLen d - 1) ≤ d ∧ d < 2 ^ Lib.bitLen d := by
  have hb := Lib.bitLenAux_bounds 64 d h (by omega)
  have : Lib.bitLen d ≤ 64 := by
    have h1 : 2 ^ (Lib.bitLen d - 1) ≤ d := hb.2.1
    by_cases hc : Lib.bitLen d ≤ 64
    · exact hc
    · have : 2 ^ 64 ≤ 2 ^ (Lib.bitLen d - 1) := Nat.pow_le_pow_right (by decide) (by omega)
      omega
  exact ⟨hb.1, this, hb.2⟩
theorem just_bounds (d b : Nat) (h1 : 1 ≤ b) (h2 : b ≤ 64) (h3 : 2 ^ (b - 1) ≤ d) (h4 : d < 2 ^ b) : 9223372036854775808 ≤ d * 2 ^ (64 - b) ∧ d * 2 ^ (64 - b) < 18446744073709551616 := by
  have e1 : 2 ^ (b - 1) * 2 ^ (64 - b) = 2 ^ 63 := by rw [← Nat.pow_add]; congr 1; omega
  have e2 : 2 ^ b * 2 ^ (64 - b) = 2 ^ 64 := by rw [← Nat.pow_add]; congr 1; omega
  constructor
  · have := Nat.mul_le_mul_right (2 ^ (64 - b)) h3
    rw [e1] at this; exact this
  · have := Nat.mul_lt_mul_of_pos_right h4 (Nat.two_pow_pos (64 - b))
    rw [e2] at this; exact this
/-- The unrounded's bound. -/
theorem usc_le (x H L s : Nat) (hx : x < 18446744073709551616) (hH : H ≤ 18446744073709551616 - 1125899906842624) (hs : 8 ≤ s) : usc x H L s ≤ 72057594037927936 - 4398046511104 + 1 := by
  have h1 : x * H / 18446744073709551616 ≤ 18446744073709551616 - 1125899906842624 := by
    have : x * H ≤ 18446744073709551616 * (18446744073709551616 - 1125899906842624) := Nat.mul_le_mul (by omega) hH
    exact Nat.div_le_of_le_mul this
  have h3 : ∀ y b, y ≤ 18446744073709551616 - 1125899906842624 → b < 2 → y / 2 ^ s ||| b ≤ 72057594037927936 - 4398046511104 + 1 := by
    intro y b hy hb
    have h4 : y / 2 ^ s ≤ y / 2 ^ 8 := Nat.div_le_div_left (Nat.pow_le_pow_right (by decide) hs) (by decide)
    have h5 : y / 2 ^ 8 ≤ 72057594037927936 - 4398046511104 := by omega
    rw [or_low1 _ _ hb]
    split <;> omega
  unfold usc uscF
  split
  · split
    · exact h3 _ _ (by omega) (by split <;> omega)
    · exact h3 _ _ (by omega) (by split <;> omega)
  · exact h3 _ _ (by omega) (by omega)

set_option maxRecDepth 100000 in
set_option maxHeartbeats 400000 in
theorem walk52 (d b s x u v m : Nat) (p L e e' : Int) (H Lw fv : Nat) (ev : Value) (ge : Bool) (w : World)
    (k59 : ∀ w, Calls Tryd.prog 59 #[.int .u64 d] w fun e w' => e = .returned (.int .i64 b) ∧ w' = w)
    (k60 : ∀ w, Calls Tryd.prog 60 #[.int .i64 p] w fun e w' => e = .returned (.int .i64 L) ∧ w' = w)
    (he : min 1074 (53 - (b : Int) - L) = e) (hb1 : (1 : Int) ≤ b) (hb2 : (b : Int) ≤ 64) (hL1 : -1200 ≤ L) (hL2 : L ≤ 1100) (he1 : -2000 ≤ e) (he2 : e ≤ 1074) (hs : ¬ (64 : Int) ≤ s)
    (hd : d < 18446744073709551616) (hx1 : x < 18446744073709551616) (hu : u < 1152921504606846976) (hv : v < 1152921504606846976) (hm : m < 9007199254740992) (hn1 : 1 ≤ b) (hn2 : b ≤ 64) (hlt : s < 64) (hs8n : 8 ≤ s)
    (k61 : Calls Tryd.prog 61 #[.pointer (some ⟨w.heap.size, 0, none⟩), .int .i64 (e - (64 - (b : Int))), .int .i64 p, .int .i64 L] (w.alloc (Obj.cells #[Value.int IntKind.u64 0, Value.int IntKind.u64 0, Value.int IntKind.i64 0] 91))
      fun r w' => r = .returned (.tuple #[]) ∧ Blk w' w.heap.size 91 #[.int .u64 H, .int .u64 Lw, .int .i64 s] ∧ Below w.heap.size w w')
    (hwx : IntKind.u64.wrap ((d : Int) * 2 ^ (64 - b)) = x)
    (k62 : ∀ w2, Blk w2 w.heap.size 91 #[.int .u64 H, .int .u64 Lw, .int .i64 s] → Calls Tryd.prog 62 #[.int .u64 x, .pointer (some ⟨w.heap.size, 0, none⟩)] w2 fun r w' => r = .returned (.int .u64 u) ∧ Below w2.heap.size w2 w')
    (hge : decide ((36028797018963966 : Int) ≤ u) = ge) (hone : bits BinOp.and IntKind.u64 (u : Int) 1 = (u : Int) % 2)
    (hor : bits BinOp.or IntKind.u64 (if ge then (u : Int) / 2 else u) ((u : Int) % 2) = v)
    (k66 : ∀ w, Calls Tryd.prog 66 #[.int .u64 v] w fun e w' => e = .returned (.int .u64 m) ∧ w' = w)
    (hom : bits BinOp.or IntKind.u64 0 (m : Int) = m) (hne : -(e - (if ge then 1 else 0)) = e')
    (k69 : ∀ w, Calls Tryd.prog 69 #[.int .u64 m, .int .i64 e'] w fun r w' => r = .returned (.tuple #[.float .f64 fv, ev]) ∧ w' = w) :
    Calls Tryd.prog 52 #[.int .u64 d, .int .i64 p, .int .u64 0] w fun r w' => r = .returned (.tuple #[.float .f64 fv, ev]) ∧ Below w.heap.size w w' := by
  cases ge
  · simp only [Bool.false_eq_true, if_false, Int.sub_zero] at hor hne
    have HK := hide hor
    have HO := hide hone
    have HM := hide hom
    have HN := hide hne
    have HG := hide hge
    have H66 := hide k66
    have H69 := hide k69
    clear hor hone hom hne hge k66 k69 hu hv hm
    go_enter Tryd.func52, Tryd.ntmps52
    go_wp2_with fail
    refine (k59 _).mono ?_
    rintro e1 w1 ⟨rfl, rfl⟩
    go_wp2_with fail
    refine (k60 _).mono ?_
    rintro e1 w1 ⟨rfl, rfl⟩
    go_wp2_with fail
    refine k61.mono ?_
    rintro e1 w2 ⟨rfl, hB, hbel⟩
    have c2 : w2.cell? ⟨w1.heap.size, 2, none⟩ = some (.int .i64 s) := hB.cell 2
    clear he
    go_wp2_with fail
    refine (k62 w2 hB).mono ?_
    rintro e1 w3 ⟨rfl, hb3⟩
    have hall : Below w1.heap.size w1 w3 := hbel.trans (hb3.mono hbel.size)
    clear hB hbel hb3 k61 k62 c2 hwx k59 k60
    have hg := unhide HG
    go_wp2_with fail
    refine (c64 _).mono ?_
    rintro e1 w4 ⟨rfl, rfl⟩
    go_wp2_with fail
    refine (c63 _ _).mono ?_
    rintro e1 w4 ⟨rfl, rfl⟩
    clear hg HG
    have hor := unhide HK
    have hone := unhide HO
    go_wp2_with fail
    refine (unhide H66 _).mono ?_
    rintro e1 w4 ⟨rfl, rfl⟩
    have hom := unhide HM
    have hne := unhide HN
    clear hor hone
    go_wp2_with fail
    refine (unhide H69 _).mono ?_
    rintro e1 w4 ⟨rfl, rfl⟩
    clear hom hne
    go_wp2
    go_ret2
    exact ⟨rfl, hall⟩
  · simp only [if_true] at hor hne
    have HK := hide hor
    have HO := hide hone
    have HM := hide hom
    have HN := hide hne
    have HG := hide hge
    have H66 := hide k66
    have H69 := hide k69
    clear hor hone hom hne hge k66 k69 hu hv hm
    go_enter Tryd.func52, Tryd.ntmps52
    go_wp2_with fail
    refine (k59 _).mono ?_
    rintro e1 w1 ⟨rfl, rfl⟩
    go_wp2_with fail
    refine (k60 _).mono ?_
    rintro e1 w1 ⟨rfl, rfl⟩
    go_wp2_with fail
    refine k61.mono ?_
    rintro e1 w2 ⟨rfl, hB, hbel⟩
    have c2 : w2.cell? ⟨w1.heap.size, 2, none⟩ = some (.int .i64 s) := hB.cell 2
    clear he
    go_wp2_with fail
    refine (k62 w2 hB).mono ?_
    rintro e1 w3 ⟨rfl, hb3⟩
    have hall : Below w1.heap.size w1 w3 := hbel.trans (hb3.mono hbel.size)
    clear hB hbel hb3 k61 k62 c2 hwx k59 k60
    have hg := unhide HG
    go_wp2_with fail
    refine (c64 _).mono ?_
    rintro e1 w4 ⟨rfl, rfl⟩
    go_wp2_with fail
    refine (c63 _ _).mono ?_
    rintro e1 w4 ⟨rfl, rfl⟩
    clear hg HG
    have hor := unhide HK
    have hone := unhide HO
    go_wp2_with fail
    refine (unhide H66 _).mono ?_
    rintro e1 w4 ⟨rfl, rfl⟩
    have hom := unhide HM
    have hne := unhide HN
    clear hor hone
    go_wp2_with fail
    refine (unhide H69 _).mono ?_
    rintro e1 w4 ⟨rfl, rfl⟩
    clear hom hne
    go_wp2
    go_ret2
    exact ⟨rfl, hall⟩

set_option maxRecDepth 100000 in
set_option maxHeartbeats 1000000 in
theorem c52 (d : Nat) (p : Int) (w : World) (hT : PowTab w) (h9 : 9 < w.heap.size) (hd0 : 0 < d) (hd : d < 18446744073709551616) (hp0 : -345 ≤ p) (hp1 : p ≤ 310) :
    Calls Tryd.prog 52 #[.int .u64 d, .int .i64 p, .int .u64 0] w fun r w' => r = .returned (fltV (pf64 d p)) ∧ Below w.heap.size w w' := by
  have k59 := fun w => c59 d w hd
  have k60 := fun w => c60 p w ⟨by omega, by omega⟩
  obtain ⟨k, hk⟩ : ∃ k : Nat, p + 348 = k := ⟨(p + 348).toNat, by omega⟩
  have hk2 : k < 696 := by omega
  have hkn : (p + 348).toNat = k := by omega
  obtain ⟨hb1, hb2, hb3, hb4⟩ := bl_bounds d hd0 hd
  unfold pf64 lg
  rw [hkn]
  obtain ⟨hH0, hH1, hLo⟩ := tab_all ⟨k, hk2⟩
  have hHt := tab_top ⟨k, hk2⟩
  obtain ⟨hTh, hTl⟩ := hT k hk2
  simp only at hH0 hH1 hLo hHt
  generalize pHi k = H at *
  generalize pLo k = Lw at *
  have hL1 : -1200 ≤ p * 108853 / 32768 := by omega
  have hL2 : p * 108853 / 32768 ≤ 1100 := by omega
  generalize p * 108853 / 32768 = L at *
  generalize Lib.bitLen d = b at *
  obtain ⟨hx0, hx1⟩ := just_bounds d b hb1 hb2 hb3 hb4
  have hbi1 : (1 : Int) ≤ b := by omega
  have hbi2 : (b : Int) ≤ 64 := by omega
  obtain ⟨e, he⟩ : ∃ e, min 1074 (53 - (b : Int) - L) = e := ⟨_, rfl⟩
  have he1 : -2000 ≤ e := by omega
  have he2 : e ≤ 1074 := by omega
  simp only [he]
  have hs8 : 8 ≤ -(e - (64 - (b : Int)) + L + 3) := by omega
  have hs9 : -(e - (64 - (b : Int)) + L + 3) ≤ 3000 := by omega
  obtain ⟨s, hs⟩ : ∃ s : Nat, -(e - (64 - (b : Int)) + L + 3) = s := ⟨(-(e - (64 - (b : Int)) + L + 3)).toNat, by omega⟩
  rw [hs]
  have hsn : ((s : Int)).toNat = s := by omega
  rw [hsn]
  have hN : 9 < w.heap.size := h9
  have k61 : Calls Tryd.prog 61 #[.pointer (some ⟨w.heap.size, 0, none⟩), .int .i64 (e - (64 - (b : Int))), .int .i64 p, .int .i64 L] (w.alloc (Obj.cells #[Value.int IntKind.u64 0, Value.int IntKind.u64 0, Value.int IntKind.i64 0] 91))
      fun r w' => r = .returned (.tuple #[]) ∧ Blk w' w.heap.size 91 #[.int .u64 H, .int .u64 Lw, .int .i64 s] ∧ Below w.heap.size w w' := by
    have hal : Below w.heap.size w (w.alloc (Obj.cells #[Value.int IntKind.u64 0, Value.int IntKind.u64 0, Value.int IntKind.i64 0] 91)) := (Below.refl _ _).alloc (Nat.le_refl _) _
    refine (c61 w.heap.size k H Lw (e - (64 - (b : Int))) p L _ _ _ _ (heap_alloc_new w _) hk hk2 h9 ?_ ?_ ⟨by omega, by omega⟩ ⟨by omega, by omega⟩).mono ?_
    · exact (hal.cell (p := ⟨9, k * 2, none⟩) h9).trans hTh
    · exact (hal.cell (p := ⟨9, k * 2 + 1, none⟩) h9).trans hTl
    · rintro r w' ⟨rfl, h1, h2⟩
      rw [hs] at h1
      exact ⟨rfl, h1, hal.trans h2⟩
  clear hTh hTl hT
  have HS := hide hs
  have HE := hide he
  by_cases h64 : (64 : Int) ≤ s
  · simp only [h64, if_true]
    go_enter Tryd.func52, Tryd.ntmps52
    go_wp2_with fail
    refine (k59 _).mono ?_
    rintro e1 w1 ⟨rfl, rfl⟩
    go_wp2_with fail
    refine (k60 _).mono ?_
    rintro e1 w1 ⟨rfl, rfl⟩
    go_wp2_with fail
    refine k61.mono ?_
    rintro e1 w2 ⟨rfl, hB, hbel⟩
    have c2 : w2.cell? ⟨w1.heap.size, 2, none⟩ = some (.int .i64 s) := hB.cell 2
    have r50 : ∀ w, (callFunc 50 #[.int .u64 0]).run Tryd.prog w = .ok (.value (.float .f64 0)) w := fun w => run50 0 w (by omega)
    have ho : bits BinOp.or IntKind.u64 0 0 = 0 := by decide +kernel
    go_wp2
    go_ret2
    exact ⟨rfl, hbel⟩
  · simp only [h64, if_false]
    have hlt : s < 64 := by omega
    have hs8n : 8 ≤ s := by omega
    obtain ⟨x, hx⟩ : ∃ x, d * 2 ^ (64 - b) = x := ⟨_, rfl⟩
    rw [hx] at hx0 hx1 ⊢
    have hxH : 18446744073709551616 ≤ x * H := by
      have : 9223372036854775808 * 9223372036854775808 ≤ x * H := Nat.mul_le_mul hx0 hH0
      omega
    have hu := usc_le x H Lw s hx1 hHt hs8n
    have k62 : ∀ w2, Blk w2 w.heap.size 91 #[.int .u64 H, .int .u64 Lw, .int .i64 s] → _ := fun w2 hB => c62 w.heap.size x H Lw s w2 hB hlt hx1 hH1 hLo hxH
    have hwx : IntKind.u64.wrap ((d : Int) * 2 ^ (64 - b)) = x := by
      rw [show (d : Int) * 2 ^ (64 - b) = ((d * 2 ^ (64 - b) : Nat) : Int) by simp, hx, IntKind.wrap_u64]; omega
    generalize usc x H Lw s = u at *
    unfold endV
    have hone : bits BinOp.and IntKind.u64 (u : Int) 1 = (u : Int) % 2 := by
      rw [and_one_u64 _ (by omega) (by omega)]
    have hor0 : ∀ m : Nat, m < 18446744073709551616 → bits BinOp.or IntKind.u64 0 (m : Int) = m := fun m hm => by
      have := bits_or_u64_nat 0 m (by decide) hm
      simpa using this
    by_cases hge : 36028797018963966 ≤ u
    · have hgei : (36028797018963966 : Int) ≤ u := by omega
      rw [if_pos hge]
      have hv : u / 2 ||| u % 2 ≤ 36028797018963968 - 2199023255552 + 1 := by
        rw [or_low1 _ _ (by omega)]; split <;> omega
      have hor : bits BinOp.or IntKind.u64 ((u : Int) / 2) ((u : Int) % 2) = ((u / 2 ||| u % 2 : Nat) : Int) := bits_or_u64_nat (u / 2) (u % 2) (by omega) (by omega)
      generalize u / 2 ||| u % 2 = v at *
      have hm : rnd v < 9007199254740992 := by unfold rnd; omega
      have k66 : ∀ w, Calls Tryd.prog 66 #[.int .u64 v] w fun e w' => e = .returned (.int .u64 (rnd v : Nat)) ∧ w' = w := fun w => c66 v w (by omega)
      generalize rnd v = m at *
      have k69 := fun w => c69' m (1 - e) w hm ⟨by omega, by omega⟩ (by omega)
      have hom := hor0 m (by omega)
      have hne : -(e - (if true then 1 else 0)) = 1 - e := by simp; omega
      obtain ⟨fv, ev, hz⟩ := fltV_open (packV m (1 - e))
      rw [hz] at k69 ⊢
      clear hz
      exact walk52 d b s x u v m p L e (1 - e) H Lw fv ev true w k59 k60 he hbi1 hbi2 hL1 hL2 he1 he2 h64 hd hx1 (by omega) (by omega) hm hb1 hb2 hlt hs8n k61 hwx k62 (decide_eq_true hgei) hone hor k66 hom hne k69
    · have hgei : ¬ (36028797018963966 : Int) ≤ u := by omega
      rw [if_neg hge]
      have hor : bits BinOp.or IntKind.u64 (u : Int) ((u : Int) % 2) = (u : Int) := by
        have := bits_or_u64_nat u (u % 2) (by omega) (by omega)
        rw [show u ||| u % 2 = u by rw [or_low1 _ _ (by omega)]; split <;> omega] at this
        exact this
      have hm : rnd u < 9007199254740992 := by unfold rnd; omega
      have k66 : ∀ w, Calls Tryd.prog 66 #[.int .u64 u] w fun e w' => e = .returned (.int .u64 (rnd u : Nat)) ∧ w' = w := fun w => c66 u w (by omega)
      generalize rnd u = m at *
      have k69 := fun w => c69' m (-e) w hm ⟨by omega, by omega⟩ (by omega)
      have hom := hor0 m (by omega)
      obtain ⟨fv, ev, hz⟩ := fltV_open (packV m (-e))
      rw [hz] at k69 ⊢
      clear hz
      exact walk52 d b s x u u m p L e (-e) H Lw fv ev false w k59 k60 he hbi1 hbi2 hL1 hL2 he1 he2 h64 hd hx1 (by omega) (by omega) hm hb1 hb2 hlt hs8n k61 hwx k62 (decide_eq_false hgei) hone hor k66 hom (by simp) k69
end Go.Proofs.Qxb6600776aDoor
