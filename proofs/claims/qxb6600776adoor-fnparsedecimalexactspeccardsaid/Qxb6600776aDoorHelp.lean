import Derived.Test.Qxb6600776aDoorPd2
set_option linter.unusedSimpArgs false
set_option linter.unusedVariables false
set_option exponentiation.threshold 10000
namespace Go.Proofs.Qxb6600776aDoor
open Go.RowKit

theorem c6_yes (s : ByteArray) (w : World) (h : s.size ≤ 1048576) : Calls Tryd.prog 6 #[.string s] w fun e w' => e = .returned (.bool true) ∧ w' = w := by
  have h1 : ¬ (1048576 : Int) < s.size := by omega
  go_enter Tryd.func6, Tryd.ntmps6
  go_wp2
  go_ret
  exact ⟨rfl, rfl⟩
theorem c6_no (s : ByteArray) (w : World) (h : ¬ s.size ≤ 1048576) : Calls Tryd.prog 6 #[.string s] w fun e w' => e = .returned (.bool false) ∧ w' = w := by
  have h1 : (1048576 : Int) < s.size := by omega
  go_enter Tryd.func6, Tryd.ntmps6
  go_wp2
  go_ret
  exact ⟨rfl, rfl⟩

theorem pow10_step : ∀ i : Fin 22, floatBits .mul .f64 (w10 i.val) 4621819117588971520 = some (w10 (i.val + 1)) := by decide +kernel
theorem c10 (k : Nat) (w : World) (hk : k ≤ 22) : Calls Tryd.prog 10 #[.int .i64 k] w fun e w' => e = .returned (.float .f64 (w10 k)) ∧ w' = w := by
  go_enter Tryd.func10, Tryd.ntmps10
  go_wp2
  go_loopg [3, 4] k (fun g p i wr => w = wr ∧ ∃ j : Nat, g = k - j ∧ j ≤ k ∧ p = .float .f64 (w10 j) ∧ i = .int .i64 j)
  case atStart => exact ⟨rfl, 0, by omega, by omega, rfl, rfl⟩
  case round =>
    obtain ⟨rfl, j, rfl, hj, rfl, rfl⟩ := hrel
    by_cases hlt : j < k
    · have hd : decide (j < k) = true := decide_eq_true hlt
      have hm := fun w => run_float_arith (P := Tryd.prog) w .mul 23 .f64 (w10 j) 4621819117588971520 (w10 (j + 1)) (pow10_step ⟨j, by omega⟩)
      go_wp2
      go_roundg (k - (j + 1))
      case measure => omega
      case rel => exact ⟨rfl, j + 1, rfl, by omega, rfl, rfl⟩
    · have hd : decide (j < k) = false := decide_eq_false hlt
      have e : j = k := by omega
      subst e
      go_wp2
      go_ret
      exact ⟨rfl, rfl⟩

set_option maxRecDepth 100000 in
theorem c9 (s : ByteArray) (w : World) (hs : s.size ≤ 1048576) (d : Nat) (hd : d ≤ s.size) (hb : ∀ j (h : j < s.size), j < d → s[j].toNat ≠ 46) (hat : ∀ h : d < s.size, s[d].toNat = 46) :
    Calls Tryd.prog 9 #[.string s] w fun e w' => e = .returned (.int .i64 d) ∧ w' = w := by
  have HB := hide hb
  have HA := hide hat
  clear hb hat
  go_enter Tryd.func9, Tryd.ntmps9
  go_wp2
  go_loopg [3] d (fun g i wr => w = wr ∧ ∃ j : Nat, g = d - j ∧ j ≤ d ∧ i = .int .i64 j)
  case atStart => exact ⟨rfl, 0, by omega, by omega, rfl⟩
  case round =>
    obtain ⟨rfl, j, rfl, hj, rfl⟩ := hrel
    by_cases hlt : j < d
    · have hsz : j < s.size := by omega
      have hszi : (j : Int) < s.size := by omega
      have h46 := unhide HB j hsz hlt
      have n46 : (((s[j].toNat : Nat) : Int) == 46) = false := beq_eq_false_iff_ne.2 (by omega)
      clear h46
      go_wp2
      go_roundg (d - (j + 1))
      case measure => omega
      case rel => exact ⟨rfl, j + 1, rfl, by omega, rfl⟩
    · have e : j = d := by omega
      subst e
      by_cases hsz : j < s.size
      · have hszi : (j : Int) < s.size := by omega
        have h46 := unhide HA hsz
        have n46 : (((s[j].toNat : Nat) : Int) == 46) = true := beq_iff_eq.2 (by omega)
        clear h46
        go_wp2
        go_ret
        exact ⟨rfl, rfl⟩
      · have hszi : ¬ (j : Int) < s.size := by omega
        have e : j = s.size := by omega
        subst e
        go_wp2
        go_ret
        exact ⟨rfl, rfl⟩

set_option maxRecDepth 100000 in
set_option maxHeartbeats 1000000 in
theorem c8_bad (s : ByteArray) (w : World) (hs : s.size ≤ 1048576) (b0 : Nat) (hb0 : b0 < s.size) (hg : GramTo s b0) (hbad : ¬ (s[b0].toNat = 46 ∨ (48 ≤ s[b0].toNat ∧ s[b0].toNat ≤ 57))) :
    Calls Tryd.prog 8 #[.string s] w fun e w' => e = .returned (.bool false) ∧ w' = w := by
  have HG := hide hg
  have HB := hide hbad
  clear hg hbad
  go_enter Tryd.func8, Tryd.ntmps8
  go_wp2
  go_loopg [3, 4, 5] s.size (fun g dots digs i wr => w = wr ∧ ∃ pos a b : Nat, g = s.size - pos ∧ pos ≤ b0 ∧ i = .int .i64 pos ∧ dots = .int .i64 a ∧ digs = .int .i64 b ∧ a ≤ pos ∧ b ≤ pos)
  case atStart => exact ⟨rfl, 0, 0, 0, by omega, by omega, rfl, rfl, rfl, by omega, by omega⟩
  case round =>
    obtain ⟨rfl, pos, a, b, rfl, hp, rfl, rfl, rfl, ha, hb⟩ := hrel
    have hlt : pos < s.size := by omega
    have hlti : (pos : Int) < s.size := by omega
    by_cases hpb : pos = b0
    · subst hpb
      have hbd := unhide HB
      have n46 : (((s[pos].toNat : Nat) : Int) == 46) = false := beq_eq_false_iff_ne.2 (by omega)
      by_cases h48 : 48 ≤ s[pos].toNat
      · have d48 : (48:Int) ≤ ((s[pos].toNat : Nat) : Int) := by omega
        have d57 : ¬ ((s[pos].toNat : Nat) : Int) ≤ 57 := by omega
        clear hbd
        go_wp2
        go_ret
        exact ⟨rfl, rfl⟩
      · have d48 : ¬ (48:Int) ≤ ((s[pos].toNat : Nat) : Int) := by omega
        clear hbd
        go_wp2
        go_ret
        exact ⟨rfl, rfl⟩
    · have hok := unhide HG pos hlt (by omega)
      by_cases h46 : s[pos].toNat = 46
      · have n46 : (((s[pos].toNat : Nat) : Int) == 46) = true := beq_iff_eq.2 (by omega)
        have d48 : ¬ (48:Int) ≤ ((s[pos].toNat : Nat) : Int) := by omega
        clear hok h46
        go_wp2
        go_roundg (s.size - (pos + 1))
        case measure => omega
        case rel => exact ⟨rfl, pos + 1, a + 1, b, rfl, by omega, rfl, rfl, rfl, by omega, by omega⟩
      · have d48 : (48:Int) ≤ ((s[pos].toNat : Nat) : Int) := by omega
        have d57 : ((s[pos].toNat : Nat) : Int) ≤ 57 := by omega
        clear hok h46
        go_wp2
        go_roundg (s.size - (pos + 1))
        case measure => omega
        case rel => exact ⟨rfl, pos + 1, a, b + 1, rfl, by omega, rfl, rfl, rfl, by omega, by omega⟩

theorem count_take (s : ByteArray) (k : Nat) (h : k < s.size) : (s.data.toList.take (k + 1)).count 46 = (s.data.toList.take k).count 46 + if s[k].toNat = 46 then 1 else 0 := by
  have hl : k < s.data.toList.length := by simpa using h
  rw [take_snoc s.data.toList k hl, List.count_append, get_eq s k h, List.count_singleton]
  congr 1
  by_cases hc : s[k] = 46
  · rw [hc]; simp
  · have : s[k].toNat ≠ 46 := fun e => hc (UInt8.toNat_inj.1 e)
    simp [hc, this]

set_option maxRecDepth 100000 in
set_option maxHeartbeats 1000000 in
theorem c8_gram (s : ByteArray) (w : World) (hs : s.size ≤ 1048576) (hg : Gram s) :
    Calls Tryd.prog 8 #[.string s] w fun e w' => e = .returned (.bool ((rk s s.size).dig && decide (s.data.toList.count 46 ≤ 1))) ∧ w' = w := by
  have HG := hide hg
  clear hg
  have hall : s.data.toList.take s.size = s.data.toList := by
    have : s.size = s.data.toList.length := by simp
    rw [this, List.take_length]
  obtain ⟨res, hres⟩ : ∃ res, ((rk s s.size).dig && decide (s.data.toList.count 46 ≤ 1)) = res := ⟨_, rfl⟩
  rw [hres]
  have HR : Hid (((rk s s.size).dig && decide ((s.data.toList.take s.size).count 46 ≤ 1)) = res) := by rw [hall]; exact hres
  clear hres hall
  go_enter Tryd.func8, Tryd.ntmps8
  go_wp2
  go_loopg [3, 4, 5] s.size (fun g dots digs i wr => w = wr ∧ ∃ pos a b : Nat, g = s.size - pos ∧ pos ≤ s.size ∧ i = .int .i64 pos ∧ dots = .int .i64 a ∧ digs = .int .i64 b ∧ a ≤ pos ∧ b ≤ pos ∧ Hid (a = (s.data.toList.take pos).count 46 ∧ (rk s pos).dig = decide (0 < b)))
  case atStart => exact ⟨rfl, 0, 0, 0, by omega, by omega, rfl, rfl, rfl, by omega, by omega, rfl, rfl⟩
  case round =>
    obtain ⟨rfl, pos, a, b, rfl, hp, rfl, rfl, rfl, ha, hb, hrel⟩ := hrel
    by_cases hlt : pos < s.size
    · have hlti : (pos : Int) < s.size := by omega
      have hok := unhide HG pos hlt
      have hstep := rk_dig_step hlt hok
      have hcs := count_take s pos hlt
      rw [← (unhide hrel).1] at hcs
      by_cases h46 : s[pos].toNat = 46
      · rw [if_pos h46, (unhide hrel).2] at hstep
        rw [if_pos h46] at hcs
        have HS : Hid ((s.data.toList.take (pos + 1)).count 46 = a + 1 ∧ (rk s (pos + 1)).dig = decide (0 < b)) := ⟨hcs, hstep⟩
        have n46 : (((s[pos].toNat : Nat) : Int) == 46) = true := beq_iff_eq.2 (by omega)
        have d48 : ¬ (48:Int) ≤ ((s[pos].toNat : Nat) : Int) := by omega
        clear hok h46 hrel hcs hstep
        go_wp2
        go_roundg (s.size - (pos + 1))
        case measure => omega
        case rel => exact ⟨rfl, pos + 1, a + 1, b, rfl, by omega, rfl, rfl, rfl, by omega, by omega, (unhide HS).1.symm, (unhide HS).2⟩
      · rw [if_neg h46] at hstep
        rw [if_neg h46] at hcs
        have HS : Hid ((s.data.toList.take (pos + 1)).count 46 = a ∧ (rk s (pos + 1)).dig = true) := ⟨hcs, hstep⟩
        have d48 : (48:Int) ≤ ((s[pos].toNat : Nat) : Int) := by omega
        have d57 : ((s[pos].toNat : Nat) : Int) ≤ 57 := by omega
        clear hok h46 hrel hcs hstep
        go_wp2
        go_roundg (s.size - (pos + 1))
        case measure => omega
        case rel => exact ⟨rfl, pos + 1, a, b + 1, rfl, by omega, rfl, rfl, rfl, by omega, by omega, (unhide HS).1.symm, (unhide HS).2.trans (by simp)⟩
    · obtain rfl : pos = s.size := by omega
      obtain ⟨r1, r2⟩ := unhide hrel
      have hr := unhide HR
      rw [r2, ← r1] at hr
      have HR2 := hide hr
      clear hrel r1 r2 hr HR
      by_cases hb0 : 0 < b
      · have hbd : decide (0 < b) = true := decide_eq_true hb0
        go_wp2
        go_ret
        refine ⟨ret_bool ?_, rfl⟩
        have := unhide HR2
        rw [hbd, Bool.true_and] at this
        rw [← this]
        by_cases h : a ≤ 1
        · rw [decide_eq_true h]; exact decide_eq_true (by omega)
        · rw [decide_eq_false h]; exact decide_eq_false (by omega)
      · have hbd : decide (0 < b) = false := decide_eq_false hb0
        go_wp2
        go_ret
        refine ⟨ret_bool ?_, rfl⟩
        have := unhide HR2
        rw [hbd] at this
        simpa using this
end Go.Proofs.Qxb6600776aDoor
