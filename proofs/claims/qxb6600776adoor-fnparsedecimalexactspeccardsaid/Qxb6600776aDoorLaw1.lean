import Derived.Test.Qxb6600776aDoorHelp
import Derived.Deep.CutBlock
set_option linter.unusedSimpArgs false
set_option linter.unusedVariables false
set_option exponentiation.threshold 10000
namespace Go.Proofs.Qxb6600776aDoor
open Go.RowKit

set_option maxRecDepth 100000 in
theorem law_long (s : ByteArray) (w : World) (h : ¬ s.size ≤ 1048576) : Calls Tryd.prog 3 #[.string s] w fun e w' => e = .returned (.bool true) ∧ Below w.heap.size w w' := by
  have h6 := hide (c6_no s w h)
  go_enter Tryd.func3, Tryd.ntmps3
  go_wp2_with fail
  refine (unhide h6).mono ?_
  rintro e w1 ⟨rfl, rfl⟩
  go_wp2_with fail
  go_ret
  exact ⟨rfl, Below.refl _ _⟩

set_option maxRecDepth 100000 in
/-- No text of the grammar: refused with (0, false). -/
theorem law_no (s : ByteArray) (w : World) (hs : s.size ≤ 1048576) (h7 : Calls Tryd.prog 7 #[.string s] w fun e w' => e = .returned (.tuple #[.float .f64 0, .bool false]) ∧ Below w.heap.size w w')
    (h8 : ∀ w, Calls Tryd.prog 8 #[.string s] w fun e w' => e = .returned (.bool false) ∧ w' = w) :
    Calls Tryd.prog 3 #[.string s] w fun e w' => e = .returned (.bool true) ∧ Below w.heap.size w w' := by
  have h6 := hide (c6_yes s w hs)
  have H7 := hide h7
  have H8 := hide h8
  clear h7 h8
  have h1 : ¬ (1048576 : Int) < s.size := by omega
  have hc : (FloatKind.f64.format.order 0 0 == some .eq) = true := by decide +kernel
  go_enter Tryd.func3, Tryd.ntmps3
  go_wp2_with fail
  refine (unhide h6).mono ?_
  rintro e w1 ⟨rfl, rfl⟩
  go_wp2_with fail
  refine (unhide H7).mono ?_
  rintro e w2 ⟨rfl, hb⟩
  have HB := hide hb
  clear hb
  go_wp2_with fail
  refine (unhide H8 _).mono ?_
  rintro e w3 ⟨rfl, rfl⟩
  go_wp2_with fail
  go_ret
  exact ⟨rfl, unhide HB⟩

/-- The text's integer part: the dot (or the end) at d, z leading zeros. -/
structure IntP (s : ByteArray) (d z : Nat) : Prop where
  sz : s.size ≤ 1048576
  dl : d ≤ s.size
  bef : ∀ j (h : j < s.size), j < d → s[j].toNat ≠ 46
  at' : ∀ h : d < s.size, s[d].toNat = 46
  zl : z ≤ d
  zer : ∀ j (h : j < s.size), j < z → s[j].toNat = 48
  one : ∀ h : z < s.size, z < d → s[z].toNat ≠ 48

/-! PART TWO -/

set_option maxRecDepth 100000 in
set_option maxHeartbeats 1000000 in
/-- Out of range: refused with an infinity. -/
theorem law_big (s : ByteArray) (w : World) (d z : Nat) (hI : IntP s d z) (hz : z < s.size) (hbig : 310 ≤ d - z ∨ (d - z = 309 ∧ 50 ≤ s[z].toNat))
    (h7 : Calls Tryd.prog 7 #[.string s] w fun e w' => (∃ (b : Nat) (ok : Bool), e = .returned (.tuple #[.float .f64 b, .bool ok]) ∧ ok = false ∧ FloatKind.f64.format.order b 9218868437227405311 = some .gt) ∧ Below w.heap.size w w')
    (h8 : ∀ w, Calls Tryd.prog 8 #[.string s] w fun e w' => e = .returned (.bool true) ∧ w' = w) :
    Calls Tryd.prog 3 #[.string s] w fun e w' => e = .returned (.bool true) ∧ Below w.heap.size w w' := by
  have h6 := hide (c6_yes s w hI.sz)
  have H7 := hide h7
  have H8 := hide h8
  have h9 := hide (fun w => c9 s w hI.sz d hI.dl hI.bef hI.at')
  have hsz := hI.sz
  have hdl := hI.dl
  have hzl := hI.zl
  have HZ : Hid ((∀ j (h : j < s.size), j < z → s[j].toNat = 48) ∧ (∀ h : z < s.size, z < d → s[z].toNat ≠ 48)) := ⟨hI.zer, hI.one⟩
  clear h7 h8 hI
  have h1 : ¬ (1048576 : Int) < s.size := by omega
  go_enter Tryd.func3, Tryd.ntmps3
  go_wp2_with fail
  refine (unhide h6).mono ?_
  rintro e w1 ⟨rfl, rfl⟩
  go_wp2_with fail
  refine (unhide H7).mono ?_
  rintro e w2 ⟨⟨b, ok, rfl, rfl, hgt⟩, hb⟩
  have HB := hide hb
  clear hb
  go_wp2_with fail
  refine (unhide H8 _).mono ?_
  rintro e w3 ⟨rfl, rfl⟩
  go_wp2_with fail
  refine (unhide h9 _).mono ?_
  rintro e w4 ⟨rfl, rfl⟩
  go_upto_block 0 with fail
  go_cut [6] from 18 (fun s6 wc => s6 = .int .i64 z ∧ w4 = wc)
  case first =>
    go_wp2_with fail
    go_loopg [6] z (fun g i wr => w4 = wr ∧ ∃ j : Nat, g = z - j ∧ j ≤ z ∧ i = .int .i64 j)
    case atStart => exact ⟨rfl, 0, by omega, by omega, rfl⟩
    case round =>
      obtain ⟨rfl, j, rfl, hj, rfl⟩ := hrel
      by_cases hjz : j < z
      · have hjd : decide (j < d) = true := decide_eq_true (by omega)
        have hjs : j < s.size := by omega
        have h48 := (unhide HZ).1 j hjs hjz
        have y48 : (((s[j].toNat : Nat) : Int) == 48) = true := beq_iff_eq.2 (by omega)
        clear h48
        go_wp2_with fail
        go_roundg (z - (j + 1))
        case measure => omega
        case rel => exact ⟨rfl, j + 1, rfl, by omega, rfl⟩
      · have e : z = j := by omega
        subst e
        have hjd : decide (z < d) = true := decide_eq_true (by omega)
        have hz48 := (unhide HZ).2 hz (by omega)
        have y48 : (((s[z].toNat : Nat) : Int) == 48) = false := beq_eq_false_iff_ne.2 (by omega)
        clear hz48
        go_wp2_with fail
        go_meet
        case rel => exact ⟨rfl, rfl⟩
  case rest =>
    obtain ⟨rfl, rfl⟩ := hcut
    obtain ⟨n, hn⟩ : ∃ n : Nat, (d : Int) - (z : Int) = (n : Int) := ⟨d - z, by omega⟩
    by_cases h310 : 310 ≤ n
    · have hd : decide (310 ≤ n) = true := decide_eq_true h310
      have hnb : n ≤ 1048576 := by omega
      go_wp2_with fail
      go_ret
      exact ⟨rfl, unhide HB⟩
    · have hn9 : n = 309 := by omega
      subst hn9
      have h50 : (50 : Int) ≤ ((s[z].toNat : Nat) : Int) := by omega
      go_wp2_with fail
      go_ret
      exact ⟨rfl, unhide HB⟩

set_option maxRecDepth 100000 in
set_option maxHeartbeats 1000000 in
/-- The narrow band. -/
theorem law_band (s : ByteArray) (w : World) (d z : Nat) (hI : IntP s d z) (y : Nat) (hy : y = z + 1) (hz0 : z < s.size) (hys : y < s.size) (hn9 : d - z = 309) (hz49 : s[z].toNat = 49) (hz55 : 55 ≤ s[y].toNat)
    (h7 : Calls Tryd.prog 7 #[.string s] w fun e w' => (∃ (b : Nat) (ok : Bool), e = .returned (.tuple #[.float .f64 b, .bool ok]) ∧ (ok = false → FloatKind.f64.format.order b 9218868437227405311 = some .gt) ∧ (ok = true → ∃ o1 o2, FloatKind.f64.format.order b 9214871658872686752 = some o1 ∧ o1 ≠ .lt ∧ FloatKind.f64.format.order b 9218868437227405311 = some o2 ∧ o2 ≠ .gt)) ∧ Below w.heap.size w w')
    (h8 : ∀ w, Calls Tryd.prog 8 #[.string s] w fun e w' => e = .returned (.bool true) ∧ w' = w) :
    Calls Tryd.prog 3 #[.string s] w fun e w' => e = .returned (.bool true) ∧ Below w.heap.size w w' := by
  have h6 := hide (c6_yes s w hI.sz)
  have H7 := hide h7
  have H8 := hide h8
  have h9 := hide (fun w => c9 s w hI.sz d hI.dl hI.bef hI.at')
  have hsz := hI.sz
  have hdl := hI.dl
  have hzl := hI.zl
  have HZ : Hid ((∀ j (h : j < s.size), j < z → s[j].toNat = 48) ∧ (∀ h : z < s.size, z < d → s[z].toNat ≠ 48)) := ⟨hI.zer, hI.one⟩
  clear h7 h8 hI
  have h1 : ¬ (1048576 : Int) < s.size := by omega
  go_enter Tryd.func3, Tryd.ntmps3
  go_wp2_with fail
  refine (unhide h6).mono ?_
  rintro e w1 ⟨rfl, rfl⟩
  go_wp2_with fail
  refine (unhide H7).mono ?_
  rintro e w2 ⟨⟨b, ok, rfl, hno, hyes⟩, hb⟩
  have HY := hide hyes
  have HN := hide hno
  clear hyes hno
  have HB := hide hb
  clear hb
  go_wp2_with fail
  refine (unhide H8 _).mono ?_
  rintro e w3 ⟨rfl, rfl⟩
  go_wp2_with fail
  refine (unhide h9 _).mono ?_
  rintro e w4 ⟨rfl, rfl⟩
  go_upto_block 0 with fail
  go_cut [6] from 18 (fun s6 wc => s6 = .int .i64 z ∧ w4 = wc)
  case first =>
    go_wp2_with fail
    go_loopg [6] z (fun g i wr => w4 = wr ∧ ∃ j : Nat, g = z - j ∧ j ≤ z ∧ i = .int .i64 j)
    case atStart => exact ⟨rfl, 0, by omega, by omega, rfl⟩
    case round =>
      obtain ⟨rfl, j, rfl, hj, rfl⟩ := hrel
      by_cases hjz : j < z
      · have hjd : decide (j < d) = true := decide_eq_true (by omega)
        have hjs : j < s.size := by omega
        have h48 := (unhide HZ).1 j hjs hjz
        have y48 : (((s[j].toNat : Nat) : Int) == 48) = true := beq_iff_eq.2 (by omega)
        clear h48
        go_wp2_with fail
        go_roundg (z - (j + 1))
        case measure => omega
        case rel => exact ⟨rfl, j + 1, rfl, by omega, rfl⟩
      · have e : z = j := by omega
        subst e
        have hjd : decide (z < d) = true := decide_eq_true (by omega)
        have hz48 : s[z].toNat ≠ 48 := by omega
        have y48 : (((s[z].toNat : Nat) : Int) == 48) = false := beq_eq_false_iff_ne.2 (by omega)
        clear hz48
        go_wp2_with fail
        go_meet
        case rel => exact ⟨rfl, rfl⟩
  case rest =>
    obtain ⟨rfl, rfl⟩ := hcut
    have hn : (d : Int) - (z : Int) = 309 := by omega
    have h50 : ¬ (50 : Int) ≤ ((s[z].toNat : Nat) : Int) := by omega
    have y49 : (((s[z].toNat : Nat) : Int) == 49) = true := beq_iff_eq.2 (by omega)
    have h54 : ¬ ((s[y].toNat : Nat) : Int) ≤ 54 := by omega
    have hz1 : (z : Int) + 1 = (y : Int) := by omega
    clear hn9 hz49 hz55 hy
    cases ok
    · have hgt := unhide HN rfl
      clear HN HY
      go_wp2_with fail
      go_ret
      exact ⟨rfl, unhide HB⟩
    · obtain ⟨o1, o2, g1, g2, g3, g4⟩ := unhide HY rfl
      clear HN HY
      cases o1 <;> cases o2 <;> first | (exact absurd rfl g2) | (exact absurd rfl g4) | skip
      all_goals
        clear g2 g4
        go_wp2_with fail
        go_ret
        exact ⟨rfl, unhide HB⟩
end Go.Proofs.Qxb6600776aDoor
