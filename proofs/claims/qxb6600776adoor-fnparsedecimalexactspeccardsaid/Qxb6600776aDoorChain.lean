import Derived.Test.Qxb6600776aDoorAtof
import Derived.Test.Qxb6600776aDoorShelfB
set_option linter.unusedSimpArgs false
set_option linter.unusedVariables false
set_option exponentiation.threshold 10000
namespace Go.Proofs.Qxb6600776aDoor
open Go.RowKit

/-- What c34 asks of the plain maths. -/
structure Pl (m : Nat) (p : Int) (tr : Bool) : Prop where
  q : ∀ k, 0 < k → k ≤ 22 → m < 4503599627370496 → ∃ r, floatBits .quo .f64 (floatOfInt .f64 m) (w10 k) = some r
  ov : tr = true → 291 ≤ p → p ≤ 310 → (Ieee.double.order (pf64 m p).1 (pf64 (m + 1) p).1 == some .eq) = true

theorem c24 (s : ByteArray) (w : World) (m : Nat) (p dp : Int) (tr : Bool) (hR : Rd s m p dp tr) (hE : Env w) (hP : Pl m p tr) :
    Calls Tryd.prog 24 #[.string s, .int .i64 64] w fun e w' => (∃ (b : Nat) (er : Bool), e = .returned (.tuple #[.float .f64 b, .int .i64 s.size, errV er]) ∧ AtOk m p tr b er) ∧ Below w.heap.size w w' := by
  have h34 := hide (c34 s w m p dp tr hR hE hP.q hP.ov)
  clear hR hE hP
  go_enter Tryd.func24, Tryd.ntmps24
  go_wp2_with fail
  refine (unhide h34).mono ?_
  rintro e w1 ⟨⟨b, er, rfl, hok⟩, hb⟩
  have H := hide hok
  have HB := hide hb
  clear hok hb
  go_wp2_with fail
  go_ret3
  exact ⟨⟨b, er, rfl, unhide H⟩, unhide HB⟩

theorem c21 (s : ByteArray) (w : World) (m : Nat) (p dp : Int) (tr : Bool) (hR : Rd s m p dp tr) (hE : Env w) (hP : Pl m p tr) :
    Calls Tryd.prog 21 #[.string s, .int .i64 64] w fun e w' => (∃ (b : Nat) (er : Bool), e = .returned (.tuple #[.float .f64 b, errV er]) ∧ AtOk m p tr b er) ∧ Below w.heap.size w w' := by
  have h34 := hide (c24 s w m p dp tr hR hE hP)
  clear hR hE hP
  go_enter Tryd.func21, Tryd.ntmps21
  go_wp2_with fail
  refine (unhide h34).mono ?_
  rintro e w1 ⟨⟨b, er, rfl, hok⟩, hb⟩
  have H := hide hok
  have HB := hide hb
  clear hok hb
  go_wp2_with fail
  go_ret2
  exact ⟨⟨b, er, rfl, unhide H⟩, unhide HB⟩

theorem c22 (fn s : ByteArray) (ev : Value) (w : World) (hs : s.size ≤ 281474976710656) (hv : w.cell? ⟨2, 0, none⟩ = some ev) (hev : ev = .nilIface ∨ ∃ te pe, ev = .iface te pe) :
    Calls Tryd.prog 22 #[.string fn, .string s, .int .i64 0, .int .i64 64, .iface 41 (.int .i64 1)] w fun e w' => (∃ N, e = .returned (.iface 42 (.pointer (some ⟨N, 0, none⟩)))) ∧ Below w.heap.size w w' := by
  refine (show Calls Tryd.prog 22 #[.string fn, .string s, .int .i64 0, .int .i64 64, .iface 41 (.int .i64 1)] w _ from Any.strconv_toError_range Tryd.lays245 fn s 0 64 ev w hs hv hev).mono ?_
  rintro e w' ⟨N, rfl, -, -, h⟩
  exact ⟨⟨N, rfl⟩, h⟩

set_option maxRecDepth 100000 in
theorem c17 (s : ByteArray) (w : World) (ev : Value) (m : Nat) (p dp : Int) (tr : Bool) (hR : Rd s m p dp tr) (hE : Env w) (hP : Pl m p tr)
    (hv : w.cell? ⟨2, 0, none⟩ = some ev) (hev : ev = .nilIface ∨ ∃ te pe, ev = .iface te pe) :
    Calls Tryd.prog 17 #[.string s, .int .i64 64] w fun e w' => (∃ (b : Nat) (er : Bool) (v : Value), e = .returned (.tuple #[.float .f64 b, v]) ∧ AtOk m p tr b er ∧ (er = false → v = .nilIface) ∧ (er = true → ∃ t x, v = .iface t x)) ∧ Below w.heap.size w w' := by
  have h21 := hide (c21 s w m p dp tr hR hE hP)
  have hsz := hR.sz
  have h2 : 2 < w.heap.size := by have := hE.sz; omega
  clear hR hE hP
  go_enter Tryd.func17, Tryd.ntmps17
  go_wp2_with fail
  refine (unhide h21).mono ?_
  rintro e w1 ⟨⟨b, er, rfl, hok⟩, hb⟩
  have H := hide hok
  have HB := hide hb
  have hv1 : w1.cell? ⟨2, 0, none⟩ = some ev := by rw [hb.cell (by exact h2)]; exact hv
  clear hok hb
  cases er
  · rw [errV_f]
    go_wp2_with fail
    go_ret2
    exact ⟨⟨b, false, .nilIface, rfl, unhide H, (fun _ => rfl), (fun h => absurd h (by simp))⟩, unhide HB⟩
  · rw [errV_t]
    go_wp2_with fail
    refine (c22 _ s ev w1 (by omega) hv1 hev).mono ?_
    rintro e w2 ⟨⟨N, rfl⟩, hb2⟩
    have HB2 := hide hb2
    clear hb2
    go_wp2_with fail
    go_ret2
    exact ⟨⟨b, true, .iface 42 (.pointer (some ⟨N, 0, none⟩)), rfl, unhide H, (fun h => absurd h (by simp)), (fun _ => ⟨_, _, rfl⟩)⟩, (unhide HB).trans ((unhide HB2).mono (unhide HB).size)⟩
end Go.Proofs.Qxb6600776aDoor
