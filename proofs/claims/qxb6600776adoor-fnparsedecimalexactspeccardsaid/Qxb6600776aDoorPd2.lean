import Derived.Test.Qxb6600776aDoorPd
set_option linter.unusedSimpArgs false
set_option linter.unusedVariables false
set_option exponentiation.threshold 10000
namespace Go.Proofs.Qxb6600776aDoor
open Go.RowKit

theorem c16 (s : ByteArray) (w : World) : Calls Tryd.prog 16 #[.string s, .string ⟨#[46]⟩] w fun e w' => e = .returned (.int .i64 (s.data.toList.count 46 : Nat)) ∧ w' = w :=
  Any.strings_Count_one Tryd.lays138 s 46 w

set_option maxRecDepth 100000 in
set_option maxHeartbeats 1000000 in
/-- Of the grammar's bytes, but no digit, or two dots: refused. -/
theorem c15_no (s : ByteArray) (w : World) (hs : s.size ≤ 1048576) (hg : Gram s) (hno : (rk s s.size).dig = false ∨ 1 < s.data.toList.count 46) :
    Calls Tryd.prog 15 #[.string s] w fun e w' => e = .returned (.tuple #[.float .f64 0, .bool false]) ∧ Below w.heap.size w w' := by
  have HG := hide hg
  have HN := hide hno
  clear hg hno
  go_enter Tryd.func15, Tryd.ntmps15
  go_wp2
  go_loopg [4] s.size (fun g d wr => ∃ pos dn : Nat, g = s.size - pos ∧ pos ≤ s.size ∧ wr = w.iter s pos ∧ d = .int .i64 dn ∧ dn ≤ pos ∧ Hid ((rk s pos).dig = decide (0 < dn)))
  case atStart => exact ⟨0, 0, by omega, by omega, rfl, rfl, by omega, rfl⟩
  case round =>
    obtain ⟨pos, dn, rfl, hp, rfl, rfl, hdn, hrel⟩ := hrel
    by_cases hlt : pos < s.size
    · have hok := unhide HG pos hlt
      have hnx := fun ty => run_next_ascii (P := Tryd.prog) w s pos ty hlt (by omega)
      have hstep := rk_dig_step hlt hok
      by_cases h46 : s[pos].toNat = 46
      · rw [if_pos h46, unhide hrel] at hstep
        have HS := hide hstep
        have n46 : (((s[pos].toNat : Nat) : Int) != 46) = false := by simp; omega
        have d48 : ¬ (48:Int) ≤ ((s[pos].toNat : Nat) : Int) := by omega
        clear hok h46 hstep hrel
        go_wp2
        go_roundg (s.size - (pos + 1))
        case measure => omega
        case rel => exact ⟨pos + 1, dn, rfl, by omega, rfl, rfl, by omega, unhide HS⟩
      · rw [if_neg h46] at hstep
        have HS := hide hstep
        have d48 : (48:Int) ≤ ((s[pos].toNat : Nat) : Int) := by omega
        have d57 : ((s[pos].toNat : Nat) : Int) ≤ 57 := by omega
        clear hok h46 hstep hrel
        go_wp2
        go_roundg (s.size - (pos + 1))
        case measure => omega
        case rel => exact ⟨pos + 1, dn + 1, rfl, by omega, rfl, rfl, by omega, (unhide HS).trans (by simp)⟩
    · obtain rfl : pos = s.size := by omega
      have hnx := fun ty => run_next_end (P := Tryd.prog) w s s.size ty hlt
      have hdg := unhide hrel
      clear hrel
      by_cases hd0 : dn = 0
      · have hd0' : ((dn : Int) == 0) = true := beq_iff_eq.2 (by omega)
        clear hdg hd0
        go_wp2
        go_ret2
        exact ⟨rfl, iter_below _ _ _⟩
      · have hd0' : ((dn : Int) == 0) = false := beq_eq_false_iff_ne.2 (by omega)
        have hcnt : 1 < s.data.toList.count 46 := by
          rcases unhide HN with h | h
          · rw [h] at hdg; simp at hdg; omega
          · exact h
        obtain ⟨c, hc⟩ : ∃ c, s.data.toList.count 46 = c := ⟨_, rfl⟩
        rw [hc] at hcnt
        have h16 := hide (c16 s (w.iter s s.size))
        rw [hc] at h16
        clear hdg hd0 HN hc
        have hcd : decide (1 < c) = true := decide_eq_true hcnt
        go_wp2_with fail
        refine (unhide h16).mono ?_
        rintro e w1 ⟨rfl, rfl⟩
        go_wp2_with fail
        go_ret2
        exact ⟨rfl, iter_below _ _ _⟩

set_option maxRecDepth 100000 in
set_option maxHeartbeats 1000000 in
theorem c15_ok (s : ByteArray) (w : World) (ev : Value) (m : Nat) (p dp : Int) (tr : Bool) (hR : Rd s m p dp tr) (hE : Env w) (hP : Pl m p tr) (hcnt : s.data.toList.count 46 ≤ 1)
    (hv : w.cell? ⟨2, 0, none⟩ = some ev) (hev : ev = .nilIface ∨ ∃ te pe, ev = .iface te pe) :
    Calls Tryd.prog 15 #[.string s] w fun e w' => (∃ (b : Nat) (er : Bool), e = .returned (.tuple #[.float .f64 b, .bool (!er)]) ∧ AtOk m p tr b er) ∧ Below w.heap.size w w' := by
  have HG := hide hR.gr
  have HD := hide hR.dg
  have hs := hR.sz
  have h17 := hide (c17 s (w.iter s s.size) ev m p dp tr hR (hE.below (iter_below _ _ _)) hP (by rw [(iter_below w s s.size).cell (by show 2 < _; have := hE.sz; omega)]; exact hv) hev)
  clear hR hE hP hv hev
  go_enter Tryd.func15, Tryd.ntmps15
  go_wp2
  go_loopg [4] s.size (fun g d wr => ∃ pos dn : Nat, g = s.size - pos ∧ pos ≤ s.size ∧ wr = w.iter s pos ∧ d = .int .i64 dn ∧ dn ≤ pos ∧ Hid ((rk s pos).dig = decide (0 < dn)))
  case atStart => exact ⟨0, 0, by omega, by omega, rfl, rfl, by omega, rfl⟩
  case round =>
    obtain ⟨pos, dn, rfl, hp, rfl, rfl, hdn, hrel⟩ := hrel
    by_cases hlt : pos < s.size
    · have hok := unhide HG pos hlt
      have hnx := fun ty => run_next_ascii (P := Tryd.prog) w s pos ty hlt (by omega)
      have hstep := rk_dig_step hlt hok
      by_cases h46 : s[pos].toNat = 46
      · rw [if_pos h46, unhide hrel] at hstep
        have HS := hide hstep
        have n46 : (((s[pos].toNat : Nat) : Int) != 46) = false := by simp; omega
        have d48 : ¬ (48:Int) ≤ ((s[pos].toNat : Nat) : Int) := by omega
        clear hok h46 hstep hrel
        go_wp2
        go_roundg (s.size - (pos + 1))
        case measure => omega
        case rel => exact ⟨pos + 1, dn, rfl, by omega, rfl, rfl, by omega, unhide HS⟩
      · rw [if_neg h46] at hstep
        have HS := hide hstep
        have d48 : (48:Int) ≤ ((s[pos].toNat : Nat) : Int) := by omega
        have d57 : ((s[pos].toNat : Nat) : Int) ≤ 57 := by omega
        clear hok h46 hstep hrel
        go_wp2
        go_roundg (s.size - (pos + 1))
        case measure => omega
        case rel => exact ⟨pos + 1, dn + 1, rfl, by omega, rfl, rfl, by omega, (unhide HS).trans (by simp)⟩
    · obtain rfl : pos = s.size := by omega
      have hnx := fun ty => run_next_end (P := Tryd.prog) w s s.size ty hlt
      have hdg := unhide hrel
      clear hrel
      rw [unhide HD] at hdg
      have hdp : 0 < dn := by simpa using hdg.symm
      have hd0' : ((dn : Int) == 0) = false := beq_eq_false_iff_ne.2 (by omega)
      obtain ⟨c, hc⟩ : ∃ c, s.data.toList.count 46 = c := ⟨_, rfl⟩
      have h16 := hide (c16 s (w.iter s s.size))
      rw [hc] at h16 hcnt
      have hcd : decide (1 < c) = false := decide_eq_false (by omega)
      clear hdg HD hc
      go_wp2_with fail
      refine (unhide h16).mono ?_
      rintro e w1 ⟨rfl, rfl⟩
      go_wp2_with fail
      refine (unhide h17).mono ?_
      rintro e w2 ⟨⟨b, er, v, rfl, hok, hvf, hvt⟩, hb⟩
      have H := hide hok
      have HB : Hid (Below w.heap.size w w2) := (iter_below w s s.size).trans (hb.mono (iter_below w s s.size).size)
      clear hok hb
      cases er
      · rw [hvf rfl]
        clear hvf hvt
        go_wp2_with fail
        go_quiet (fail)
        go_wp2_with fail
        go_ret2
        exact ⟨⟨b, false, rfl, unhide H⟩, below_drewN (unhide HB) _⟩
      · obtain ⟨t, x, hx⟩ := hvt rfl
        rw [hx]
        clear hvf hvt hx
        go_wp2_with fail
        go_quiet (fail)
        go_wp2_with fail
        go_ret2
        exact ⟨⟨b, true, rfl, unhide H⟩, below_drewN (unhide HB) _⟩

theorem c7_of (s : ByteArray) (w : World) (Q : Nat → Bool → Prop) (h : Calls Tryd.prog 15 #[.string s] w fun e w' => (∃ (b : Nat) (ok : Bool), e = .returned (.tuple #[.float .f64 b, .bool ok]) ∧ Q b ok) ∧ Below w.heap.size w w') :
    Calls Tryd.prog 7 #[.string s] w fun e w' => (∃ (b : Nat) (ok : Bool), e = .returned (.tuple #[.float .f64 b, .bool ok]) ∧ Q b ok) ∧ Below w.heap.size w w' := by
  have H := hide h
  clear h
  go_enter Tryd.func7, Tryd.ntmps7
  go_wp2_with fail
  refine (unhide H).mono ?_
  rintro e w1 ⟨⟨b, ok, rfl, hok⟩, hb⟩
  have H2 := hide hok
  have HB := hide hb
  clear hok hb
  go_wp2_with fail
  go_ret2
  exact ⟨⟨b, ok, rfl, unhide H2⟩, unhide HB⟩
end Go.Proofs.Qxb6600776aDoor
