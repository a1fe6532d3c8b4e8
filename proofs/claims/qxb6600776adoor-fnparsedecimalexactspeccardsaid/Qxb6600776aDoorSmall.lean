import Derived.Test.Qxb6600776aDoorShelf
import Derived.Test.Qxb6600776aDoorBase
import Derived.Handy
set_option linter.unusedSimpArgs false
set_option linter.unusedVariables false
namespace Go.Proofs.Qxb6600776aDoor
open Go.RowKit Go.Shelf

theorem c49 (b : Bool) (w : World) : Calls Tryd.prog 49 #[.bool b] w fun e w' => e = .returned (.int .u64 (if b then 1 else 0)) ∧ w' = w := by
  cases b
  all_goals go_enter Tryd.func49, Tryd.ntmps49
  all_goals go_wp2
  all_goals go_ret
  all_goals exact ⟨rfl, rfl⟩
theorem c63 (b : Bool) (w : World) : Calls Tryd.prog 63 #[.bool b] w fun e w' => e = .returned (.int .i64 (if b then 1 else 0)) ∧ w' = w := by
  cases b
  all_goals go_enter Tryd.func63, Tryd.ntmps63
  all_goals go_wp2
  all_goals go_ret
  all_goals exact ⟨rfl, rfl⟩
theorem c60 (p : Int) (w : World) (h : -400 ≤ p ∧ p ≤ 400) : Calls Tryd.prog 60 #[.int .i64 p] w fun e w' => e = .returned (.int .i64 (p * 108853 / 32768)) ∧ w' = w := by
  obtain ⟨h1, h2⟩ := h
  go_enter Tryd.func60, Tryd.ntmps60
  go_wp2
  go_ret
  exact ⟨rfl, rfl⟩
theorem c64 (w : World) : Calls Tryd.prog 64 #[.int .u64 9007199254740992] w fun e w' => e = .returned (.int .u64 36028797018963966) ∧ w' = w := by
  go_enter Tryd.func64, Tryd.ntmps64
  go_wp2
  go_ret
  exact ⟨rfl, rfl⟩
theorem c66 (u : Nat) (w : World) (h : u < 2 ^ 60) : Calls Tryd.prog 66 #[.int .u64 u] w fun e w' => e = .returned (.int .u64 ((u + 1 + u / 4 % 2) / 4 : Nat)) ∧ w' = w := by
  have h1 : bits BinOp.and IntKind.u64 ((u : Int) / 4) 1 = (u / 4 % 2 : Nat) := by
    rw [and_one_u64 _ (by omega) (by omega)]; omega
  go_enter Tryd.func66, Tryd.ntmps66
  go_wp2
  go_ret
  exact ⟨ret_int (by omega), rfl⟩
theorem c71 (x y : Nat) (w : World) (hx : x < 18446744073709551616) (hy : y < 18446744073709551616) : Calls Tryd.prog 71 #[.int .u64 x, .int .u64 y] w fun e w' => e = .returned (.tuple #[.int .u64 (x * y / 18446744073709551616 : Nat), .int .u64 (x * y % 18446744073709551616 : Nat)]) ∧ w' = w :=
  Any.bits_Mul64 Tryd.lays264 x y hx hy w
theorem c59 (x : Nat) (w : World) (hx : x < 18446744073709551616) : Calls Tryd.prog 59 #[.int .u64 x] w fun e w' => e = .returned (.int .i64 (Lib.bitLen x)) ∧ w' = w :=
  Any.bits_Len64 Tryd.lays129 x w (by omega) (by omega)
theorem run50 (b : Nat) (w : World) (h : b < 18446744073709551616) : (callFunc 50 #[.int .u64 b]).run Tryd.prog w = .ok (.value (.float .f64 b)) w := by
  rw [run_callFunc_extern Tryd.func50 (by kernel_rfl) (by kernel_rfl) (by kernel_rfl) (e := Extern.MathFloatBits.float64frombits) (by kernel_rfl)]
  rfl
set_option maxRecDepth 100000 in
/-- pack64, no sign. -/
theorem c69 (m : Nat) (e : Int) (w : World) (hm : m < 9007199254740992) (he : -2000 ≤ e ∧ e ≤ 2000) (hlo : 4503599627370496 ≤ m → -1075 ≤ e) :
    Calls Tryd.prog 69 #[.int .u64 m, .int .i64 e] w fun r w' => r = .returned (if m < 4503599627370496 then .tuple #[.float .f64 m, .nilIface] else if 972 ≤ e then .tuple #[.float .f64 9218868437227405312, .iface 41 (.int .i64 1)] else .tuple #[.float .f64 ((e + 1075).toNat * 4503599627370496 + (m - 4503599627370496)), .nilIface]) ∧ w' = w := by
  by_cases h1 : m < 4503599627370496
  · have hb : bits BinOp.and IntKind.u64 (m : Int) 4503599627370496 = 0 := by
      have := bits_and_u64_nat m (2 ^ 52) (by omega) (by decide)
      rw [and_pow, Nat.div_eq_of_lt (by omega)] at this
      simpa using this
    have r50 := fun w => run50 m w (by omega)
    simp only [h1, if_true]
    go_enter Tryd.func69, Tryd.ntmps69
    go_wp2
    go_ret2
    exact ⟨rfl, rfl⟩
  · have hb : bits BinOp.and IntKind.u64 (m : Int) 4503599627370496 = 4503599627370496 := by
      have := bits_and_u64_nat m (2 ^ 52) (by omega) (by decide)
      rw [and_pow, show m / 2 ^ 52 = 1 by omega] at this
      simpa using this
    simp only [h1, if_false]
    by_cases h2 : 972 ≤ e
    · have hc : bits BinOp.and IntKind.u64 (m : Int) 9223372036854775808 = 0 := by
        have := bits_and_u64_nat m (2 ^ 63) (by omega) (by decide)
        rw [and_pow, Nat.div_eq_of_lt (by omega)] at this
        simpa using this
      have r50 : ∀ w, (callFunc 50 #[.int .u64 9218868437227405312]).run Tryd.prog w = .ok (.value (.float .f64 9218868437227405312)) w := fun w => run50 9218868437227405312 w (by omega)
      have he : bits BinOp.or IntKind.u64 0 9218868437227405312 = 9218868437227405312 := by decide +kernel
      simp only [h2, if_true]
      go_enter Tryd.func69, Tryd.ntmps69
      go_wp2
      go_ret2
      exact ⟨rfl, rfl⟩
    · obtain ⟨x, hx⟩ : ∃ x : Nat, 1075 + e = x := ⟨(1075 + e).toNat, by omega⟩
      have hd : bits BinOp.andNot IntKind.u64 (m : Int) 4503599627370496 = ((m - 4503599627370496 : Nat) : Int) := by
        have := bits_andNot_u64_nat m (2 ^ 52) (by omega) (by decide)
        rw [and_pow, show m / 2 ^ 52 = 1 by omega] at this
        simpa using this
      have hf : bits BinOp.or IntKind.u64 ((m - 4503599627370496 : Nat) : Int) ((x : Int) * 4503599627370496) = ((x * 4503599627370496 + (m - 4503599627370496) : Nat) : Int) := by
        have := bits_or_u64_nat (m - 4503599627370496) (x * 2 ^ 52) (by omega) (by omega)
        rw [or_low _ _ _ (by omega)] at this
        exact this
      have hy : (e + 1075).toNat * 4503599627370496 + (m - 4503599627370496) = x * 4503599627370496 + (m - 4503599627370496) := by rw [show (e + 1075).toNat = x by omega]
      have hy2 : x * 4503599627370496 + (m - 4503599627370496) < 18446744073709551616 := by omega
      simp only [h2, if_false]
      rw [hy]
      clear hy
      generalize x * 4503599627370496 + (m - 4503599627370496) = y at *
      have r50 := fun w => run50 y w (by omega)
      go_enter Tryd.func69, Tryd.ntmps69
      go_wp2
      go_ret2
      exact ⟨rfl, rfl⟩
end Go.Proofs.Qxb6600776aDoor
