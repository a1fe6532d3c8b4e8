import Derived.Test.Qxb6600776aDoorSet2
import Derived.Test.Qxb6600776aDoorFloatB
set_option linter.unusedSimpArgs false
set_option linter.unusedVariables false
set_option exponentiation.threshold 10000
namespace Go.Proofs.Qxb6600776aDoor
open Go.RowKit

/-- The variables' cells that the road reads. -/
structure Env (w : World) : Prop where
  sz : 10 < w.heap.size
  opt : w.cell? ⟨4, 0, none⟩ = some (.bool true)
  pow : PowTab w
  p10 : Pow10F w
  ch : Cheats w.heap.size w
  pt : PowT w.heap.size w
  fi : FInfo w.heap.size w
theorem Cheats.mono {N N' : Nat} {w : World} (h : Cheats N w) (hN : N ≤ N') : Cheats N' w := by
  obtain ⟨g, o, c, h1, h2, h3⟩ := h
  exact ⟨g, o, c, by omega, by omega, h3⟩
theorem PowT.mono {N N' : Nat} {w : World} (h : PowT N w) (hN : N ≤ N') : PowT N' w := by
  obtain ⟨g, o, c, h1, h2, h3⟩ := h
  exact ⟨g, o, c, by omega, by omega, h3⟩
theorem FInfo.mono {N N' : Nat} {w : World} (h : FInfo N w) (hN : N ≤ N') : FInfo N' w := ⟨by have := h.lt; omega, h.mb, h.eb, h.bi⟩
theorem PowTab.below {N : Nat} {w w' : World} (h : PowTab w) (h9 : 9 < N) (hb : Below N w w') : PowTab w' := fun k hk => by
  rw [hb.cell (by exact h9), hb.cell (by exact h9)]; exact h k hk

theorem zc75 : Tryd.zeroCells75 = Array.replicate 800 (.int .u8 0) ++ #[.int .i64 0, .int .i64 0, .bool false, .bool false] := by kernel_rfl
theorem alloc_cell (w : World) (cs : Array Value) (t : TypeId) (k : Nat) : (w.alloc (Obj.cells cs t)).cell? ⟨w.heap.size, k, none⟩ = cs[k]? := by
  simp [World.cell?, World.alloc, -World.alloc_eq]
theorem alloc_froz (w : World) (cs : Array Value) (t : TypeId) (k : Nat) : (w.alloc (Obj.cells cs t)).frozen? ⟨w.heap.size, k, none⟩ = false := by
  simp [World.frozen?, World.alloc, -World.alloc_eq]
/-- A fresh decimal. -/
theorem dec_fresh (w : World) : Dec (w.alloc (Obj.cells Tryd.zeroCells75 75)) w.heap.size (fun _ => 0) 0 0 false where
  d := fun k hk => by rw [alloc_cell, zc75, Array.getElem?_append_left (by simpa using hk)]; simp [hk]
  nd := by rw [alloc_cell, zc75, Array.getElem?_append_right (by simp)]; simp
  dp := by rw [alloc_cell, zc75, Array.getElem?_append_right (by simp)]; simp
  neg := by rw [alloc_cell, zc75, Array.getElem?_append_right (by simp)]; simp
  tr := by rw [alloc_cell, zc75, Array.getElem?_append_right (by simp)]; simp
  free := fun k => alloc_froz w _ _ k

def ExOk (d : Nat) (p : Int) (f : Nat) (ok : Bool) : Prop :=
  (ok = true ∧ d < 4503599627370496 ∧ ((p = 0 ∧ f = floatOfInt .f64 d) ∨ ∃ k : Nat, 0 < k ∧ k ≤ 22 ∧ p = -(k : Int) ∧ floatBits .quo .f64 (floatOfInt .f64 d) (w10 k) = some f)) ∨ (ok = false ∧ (4503599627370496 ≤ d ∨ p < -22))
/-- atof64exact, with the division's answer taken for granted. -/
theorem c51 (d : Nat) (p : Int) (w : World) (hi : w.cell? ⟨5, 0, none⟩ = some (.int .u64 52)) (hT : Pow10F w) (hd : d < 18446744073709551616) (hp : 0 < p → 4503599627370496 ≤ d)
    (hq : ∀ k, 0 < k → k ≤ 22 → d < 4503599627370496 → ∃ r, floatBits .quo .f64 (floatOfInt .f64 d) (w10 k) = some r) :
    Calls Tryd.prog 51 #[.int .u64 d, .int .i64 p, .bool false] w fun e w' => (∃ (f : Nat) (ok : Bool), e = .returned (.tuple #[.float .f64 f, .bool ok]) ∧ ExOk d p f ok) ∧ w' = w := by
  by_cases hb : 4503599627370496 ≤ d
  · refine (c51_big d p w hi hd hb).mono ?_
    rintro e w1 ⟨rfl, rfl⟩
    exact ⟨⟨0, false, rfl, Or.inr ⟨rfl, Or.inl hb⟩⟩, rfl⟩
  · by_cases h0 : p = 0
    · subst h0
      refine (c51_zero d w hi (by omega)).mono ?_
      rintro e w1 ⟨rfl, rfl⟩
      exact ⟨⟨_, true, rfl, Or.inl ⟨rfl, by omega, Or.inl ⟨rfl, rfl⟩⟩⟩, rfl⟩
    · by_cases h22 : p < -22
      · refine (c51_low d p w hi (by omega) h22).mono ?_
        rintro e w1 ⟨rfl, rfl⟩
        exact ⟨⟨_, false, rfl, Or.inr ⟨rfl, Or.inr h22⟩⟩, rfl⟩
      · have hneg : p < 0 := by
          by_cases h : 0 < p
          · exact absurd (hp h) hb
          · omega
        obtain ⟨k, rfl⟩ : ∃ k : Nat, p = -(k : Int) := ⟨(-p).toNat, by omega⟩
        obtain ⟨r, hr⟩ := hq k (by omega) (by omega) (by omega)
        refine (c51_div d k r w hi hT (by omega) (by omega) (by omega) hr).mono ?_
        rintro e w1 ⟨rfl, rfl⟩
        exact ⟨⟨r, true, rfl, Or.inl ⟨rfl, by omega, Or.inr ⟨k, by omega, by omega, rfl, hr⟩⟩⟩, rfl⟩

/-- What atof64 answers: the word and whether it is out of range. X0 is what the fallback's decimal is worth, times 10^1200, cut to 800 digits. -/
def AtOk (m : Nat) (p : Int) (tr : Bool) (b : Nat) (er : Bool) : Prop :=
  (m = 0 ∧ b = 0 ∧ er = false) ∨ (m ≠ 0 ∧ 310 < p ∧ b = 9218868437227405312 ∧ er = true) ∨ (m ≠ 0 ∧ p < -345 ∧ b = 0 ∧ er = false) ∨
  (m ≠ 0 ∧ -345 ≤ p ∧ p ≤ 310 ∧ tr = false ∧ ((ExOk m p b true ∧ er = false) ∨ (ExOk m p 0 false ∧ (b, er) = pf64 m p))) ∨
  (m ≠ 0 ∧ -345 ≤ p ∧ p ≤ 310 ∧ tr = true ∧ ((b, er) = pf64 m p ∨
    ((Ieee.double.order (pf64 m p).1 (pf64 (m + 1) p).1 == some .eq) = false ∧ ∃ P0, P0 / 10 ^ 781 = m ∧ FbOk (P0 * Z (p + 19)) b er)))

/-- What the reader hands on, in plain variables. -/
structure Rd (s : ByteArray) (m : Nat) (p dp : Int) (tr : Bool) : Prop where
  sz : s.size ≤ 1048576
  gr : Gram s
  od : OneDot s
  dg : (rk s s.size).dig = true
  em : (rk s s.size).m = m
  ep : rexp (rk s s.size) = p
  et : (rk s s.size).tr = tr
  ed : m ≠ 0 → rdp (rk s s.size) = dp
  mb : m < 10000000000000000000
  pb : 0 < p → 4503599627370496 ≤ m
  pl : -2000000 ≤ p ∧ p ≤ 2000000
  t19 : tr = true → (rk s s.size).nm = 19 ∧ m ≠ 0 ∧ dp = p + 19 ∧ 19 ≤ (rk s s.size).nd

theorem errV_t : errV true = .iface 41 (.int .i64 1) := rfl
theorem errV_f : errV false = .nilIface := rfl
theorem b49 (w : World) : Calls Tryd.prog 49 #[.bool false] w fun e w' => e = .returned (.int .u64 0) ∧ w' = w := c49 false w

set_option maxRecDepth 100000 in
set_option maxHeartbeats 8000000 in
theorem c34 (s : ByteArray) (w : World) (m : Nat) (p dp : Int) (tr : Bool) (hR : Rd s m p dp tr) (hE : Env w)
    (hq : ∀ k, 0 < k → k ≤ 22 → m < 4503599627370496 → ∃ r, floatBits .quo .f64 (floatOfInt .f64 m) (w10 k) = some r)
    (hov : tr = true → 291 ≤ p → p ≤ 310 → (Ieee.double.order (pf64 m p).1 (pf64 (m + 1) p).1 == some .eq) = true) :
    Calls Tryd.prog 34 #[.string s] w fun e w' => (∃ (b : Nat) (er : Bool), e = .returned (.tuple #[.float .f64 b, .int .i64 s.size, errV er]) ∧ AtOk m p tr b er) ∧ Below w.heap.size w w' := by
  have h40 := c40 s w hR.sz hR.gr
  have h41 := c41 s w hR.sz hR.gr hR.od hR.dg
  rw [hR.em, hR.ep, hR.et] at h41
  have hopt := hE.opt
  have hmb := hR.mb
  have hpl := hR.pl.1
  have hph := hR.pl.2
  have hA : Hid (Rd s m p dp tr ∧ Env w ∧ ∀ k, 0 < k → k ≤ 22 → m < 4503599627370496 → ∃ r, floatBits .quo .f64 (floatOfInt .f64 m) (w10 k) = some r) := ⟨hR, hE, hq⟩
  have H40 := hide h40
  have H41 := hide h41
  have HO := hide hov
  have r0 : ∀ w, (callFunc 50 #[.int .u64 0]).run Tryd.prog w = .ok (.value (.float .f64 0)) w := fun w => run50 0 w (by omega)
  have r1 : ∀ w, (callFunc 50 #[.int .u64 9218868437227405312]).run Tryd.prog w = .ok (.value (.float .f64 9218868437227405312)) w := fun w => run50 9218868437227405312 w (by omega)
  have o0 : bits BinOp.or IntKind.u64 0 0 = 0 := by decide +kernel
  have o1 : bits BinOp.or IntKind.u64 0 9218868437227405312 = 9218868437227405312 := by decide +kernel
  have hszb := hR.sz
  clear hR hE hq h40 h41 hov
  by_cases hm0 : m = 0
  · have hm0' : ((m : Int) == 0) = true := beq_iff_eq.2 (by omega)
    have HM := hide hm0
    clear hm0
    go_enter Tryd.func34, Tryd.ntmps34
    go_wp2_with fail
    refine (unhide H40).mono ?_
    rintro e w1 ⟨rfl, rfl⟩
    go_wp2_with fail
    refine (unhide H41).mono ?_
    rintro e w1 ⟨rfl, rfl⟩
    go_wp2_with fail
    refine (b49 _).mono ?_
    rintro e w1 ⟨rfl, rfl⟩
    go_wp2_with fail
    go_ret3
    exact ⟨⟨0, false, rfl, Or.inl ⟨unhide HM, rfl, rfl⟩⟩, Below.refl _ _⟩
  · have hm0' : ((m : Int) == 0) = false := beq_eq_false_iff_ne.2 (by omega)
    by_cases hp1 : 310 < p
    · clear r0
      go_enter Tryd.func34, Tryd.ntmps34
      go_wp2_with fail
      refine (unhide H40).mono ?_
      rintro e w1 ⟨rfl, rfl⟩
      go_wp2_with fail
      refine (unhide H41).mono ?_
      rintro e w1 ⟨rfl, rfl⟩
      go_wp2_with fail
      refine (b49 _).mono ?_
      rintro e w1 ⟨rfl, rfl⟩
      go_wp2_with fail
      go_ret3
      exact ⟨⟨9218868437227405312, true, rfl, Or.inr (Or.inl ⟨hm0, hp1, rfl, rfl⟩)⟩, Below.refl _ _⟩
    · by_cases hp2 : p < -345
      · clear r1
        go_enter Tryd.func34, Tryd.ntmps34
        go_wp2_with fail
        refine (unhide H40).mono ?_
        rintro e w1 ⟨rfl, rfl⟩
        go_wp2_with fail
        refine (unhide H41).mono ?_
        rintro e w1 ⟨rfl, rfl⟩
        go_wp2_with fail
        refine (b49 _).mono ?_
        rintro e w1 ⟨rfl, rfl⟩
        go_wp2_with fail
        go_ret3
        exact ⟨⟨0, false, rfl, Or.inr (Or.inr (Or.inl ⟨hm0, hp2, rfl, rfl⟩))⟩, Below.refl _ _⟩
      · obtain ⟨b, hb⟩ : ∃ b, (pf64 m p).1 = b := ⟨_, rfl⟩
        obtain ⟨er, her⟩ : ∃ er, (pf64 m p).2 = er := ⟨_, rfl⟩
        have HP : Hid (pf64 m p = (b, er)) := by rw [← hb, ← her]; exact rfl
        have h52 : Hid (∀ w, PowTab w → 9 < w.heap.size → Calls Tryd.prog 52 #[.int .u64 m, .int .i64 p, .int .u64 0] w fun r w' => r = .returned (.tuple #[.float .f64 b, errV er]) ∧ Below w.heap.size w w') := by
          intro w h1 h2
          refine (c52 m p w h1 h2 (by omega) (by omega) (by omega) (by omega)).mono ?_
          rintro e w' ⟨rfl, h⟩
          exact ⟨by rw [unhide HP]; rfl, h⟩
        clear hb her
        cases tr
        · clear r0 r1 o0 o1
          go_enter Tryd.func34, Tryd.ntmps34
          go_wp2_with fail
          refine (unhide H40).mono ?_
          rintro e w1 ⟨rfl, rfl⟩
          go_wp2_with fail
          refine (unhide H41).mono ?_
          rintro e w1 ⟨rfl, rfl⟩
          go_wp2_with fail
          refine (b49 _).mono ?_
          rintro e w1 ⟨rfl, rfl⟩
          go_wp2_with fail
          obtain ⟨hR, hE, hq⟩ := unhide hA
          refine (c51 m p _ hE.fi.mb hE.p10 (by omega) hR.pb hq).mono ?_
          rintro e w1 ⟨⟨f, ok, rfl, hx⟩, rfl⟩
          have HX := hide hx
          clear hR hE hq hx
          cases ok
          · go_wp2_with fail
            have hE := (unhide hA).2.1
            refine (unhide h52 _ hE.pow (by have := hE.sz; omega)).mono ?_
            rintro e w2 ⟨rfl, hbel⟩
            have HB := hide hbel
            clear hE hbel
            go_wp2_with fail
            go_ret3
            refine ⟨⟨b, er, rfl, Or.inr (Or.inr (Or.inr (Or.inl ⟨hm0, by omega, by omega, rfl, Or.inr ⟨?_, (unhide HP).symm⟩⟩)))⟩, unhide HB⟩
            rcases unhide HX with ⟨h, -⟩ | h
            · cases h
            · exact Or.inr h
          · go_wp2_with fail
            go_ret3
            exact ⟨⟨f, false, rfl, Or.inr (Or.inr (Or.inr (Or.inl ⟨hm0, by omega, by omega, rfl, Or.inl ⟨unhide HX, rfl⟩⟩)))⟩, Below.refl _ _⟩
        · obtain ⟨b1, hb1⟩ : ∃ b, (pf64 (m + 1) p).1 = b := ⟨_, rfl⟩
          obtain ⟨er1, her1⟩ : ∃ er, (pf64 (m + 1) p).2 = er := ⟨_, rfl⟩
          have HP1 : Hid (pf64 (m + 1) p = (b1, er1)) := by rw [← hb1, ← her1]; exact rfl
          have h52' : Hid (∀ w, PowTab w → 9 < w.heap.size → Calls Tryd.prog 52 #[.int .u64 ((m : Int) + 1), .int .i64 p, .int .u64 0] w fun r w' => r = .returned (.tuple #[.float .f64 b1, errV er1]) ∧ Below w.heap.size w w') := by
            intro w h1 h2
            refine (c52 (m + 1) p w h1 h2 (by omega) (by omega) (by omega) (by omega)).mono ?_
            rintro e w' ⟨rfl, h⟩
            exact ⟨by rw [unhide HP1]; rfl, h⟩
          clear hb1 her1 r0 r1 o0 o1
          obtain ⟨c, hc⟩ : ∃ c, (FloatKind.f64.format.order b b1 == some .eq) = c := ⟨_, rfl⟩
          have HC : Hid ((Ieee.double.order (pf64 m p).1 (pf64 (m + 1) p).1 == some .eq) = c) := by rw [unhide HP, unhide HP1]; exact hc
          have hext : s.extract 0 s.size = s := by ext1; simp
          have HO' : Hid (291 ≤ p → p ≤ 310 → (Ieee.double.order (pf64 m p).1 (pf64 (m + 1) p).1 == some .eq) = true) := fun a b => unhide HO rfl a b
          clear HO
          go_enter Tryd.func34, Tryd.ntmps34
          go_wp2_with fail
          refine (unhide H40).mono ?_
          rintro e w1 ⟨rfl, rfl⟩
          go_wp2_with fail
          refine (unhide H41).mono ?_
          rintro e w1 ⟨rfl, rfl⟩
          go_wp2_with fail
          refine (b49 _).mono ?_
          rintro e w1 ⟨rfl, rfl⟩
          go_wp2_with fail
          have hE := (unhide hA).2.1
          refine (unhide h52 _ hE.pow (by have := hE.sz; omega)).mono ?_
          rintro e w2 ⟨rfl, hbel⟩
          have HB := hide hbel
          clear hE hbel
          go_wp2_with fail
          have hE := (unhide hA).2.1
          refine (unhide h52' _ (hE.pow.below (by have := hE.sz; omega) (unhide HB)) (by have := hE.sz; have := (unhide HB).size; omega)).mono ?_
          rintro e w3 ⟨rfl, hbel3⟩
          have HB3 : Hid (Below w1.heap.size w1 w3) := (unhide HB).trans (hbel3.mono (unhide HB).size)
          clear hE hbel3
          cases c
          · have hp291 : p ≤ 290 := by
              by_cases h : p ≤ 290
              · exact h
              · exact absurd ((unhide HO' (by omega) (by omega)).symm.trans (unhide HC)) (by simp)
            go_wp2_with fail
            have hR := (unhide hA).1
            refine (c47 s _ w3.heap.size hR.sz hR.gr hR.od hR.dg (dec_fresh w3)).mono ?_
            rintro e w4 ⟨rfl, D, tr4, q1, q2, q3, q4, q5, q6⟩
            have hdec : Hid (DecP w4 w3.heap.size (pad D (min (rk s s.size).nd 800)) (p + 19) ∧ pad D (min (rk s s.size).nd 800) / 10 ^ 781 = m ∧ Below w3.heap.size w3 w4) := by
              obtain ⟨t1, t2, t3, t4⟩ := hR.t19 rfl
              have e1 : min (rdp (rk s s.size)) 800 = p + 19 := by rw [hR.ed t2, t3]; omega
              rw [e1] at q1
              refine ⟨⟨D, _, tr4, q1, by omega, by omega, q2, q3 (by omega), rfl⟩, ?_, ((Below.refl _ w3).alloc (Nat.le_refl _) _).trans q6⟩
              have := numP_pad (d := 19) (by omega) q2 (by omega)
              rw [numP_le (by omega)] at this
              rw [← hR.em, q4, t1, this]
            clear q1 q2 q3 q4 q5 q6 hR
            generalize pad D (min (rk s s.size).nd 800) = P0 at *
            go_wp2_with fail
            obtain ⟨k1, k2, k3⟩ := unhide hdec
            have hE := (unhide hA).2.1
            have hB4 : Below w1.heap.size w1 w4 := (unhide HB3).trans (k3.mono (unhide HB3).size)
            refine (c48 w4 w3.heap.size P0 _ (p + 19) k1 ((hE.ch.below hB4).mono (unhide HB3).size) ((hE.pt.below hB4).mono (unhide HB3).size) ((hE.fi.below hB4).mono (unhide HB3).size) rfl (by omega) (by omega)).mono ?_
            rintro e w5 ⟨b2, ovf, rfl, hfb, hb5⟩
            have hb2 : b2 < 18446744073709551616 := by
              rcases hfb.1 with ⟨-, h⟩ | ⟨-, h⟩ <;> omega
            have r2 := fun w => run50 b2 w hb2
            have HF : Hid (AtOk m p true b2 ovf ∧ Below w1.heap.size w1 w5) := by
              refine ⟨Or.inr (Or.inr (Or.inr (Or.inr ⟨hm0, by omega, by omega, rfl, Or.inr ⟨unhide HC, P0, k2, hfb⟩⟩))), hB4.trans (hb5.mono (unhide HB3).size)⟩
            clear k1 k2 k3 hE hB4 hfb hb5 hdec
            cases ovf
            · go_wp2_with fail
              go_ret3
              exact ⟨⟨b2, false, rfl, (unhide HF).1⟩, (unhide HF).2⟩
            · go_wp2_with fail
              go_ret3
              exact ⟨⟨b2, true, rfl, (unhide HF).1⟩, (unhide HF).2⟩
          · go_wp2_with fail
            go_ret3
            exact ⟨⟨b, er, rfl, Or.inr (Or.inr (Or.inr (Or.inr ⟨hm0, by omega, by omega, rfl, Or.inl (unhide HP).symm⟩)))⟩, unhide HB3⟩
end Go.Proofs.Qxb6600776aDoor
