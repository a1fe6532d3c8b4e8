import Derived.Test.Qxb6600776aDoorParse
import Derived.Laws.FloatArith
set_option linter.unusedSimpArgs false
set_option linter.unusedVariables false
namespace Go.Proofs.Qxb6600776aDoor
open Go.RowKit Go.Shelf

/-- The words of the powers of ten, as float64pow10's text lays them. -/
def w10s : List Nat := [4607182418800017408, 4621819117588971520, 4636737291354636288, 4652007308841189376, 4666723172467343360, 4681608360884174848, 4696837146684686336, 4711630319722168320, 4726483295884279808, 4741671816366391296, 4756540486875873280, 4771362005757984768, 4786511204640096256, 4801453603149578240, 4816244402031689728, 4831355200913801216, 4846369599423283200, 4861130398305394688, 4876203697187506176, 4891288408196988160, 4906019910204099648, 4921056587992461136, 4936209963552724370]
def w10 (k : Nat) : Nat := w10s.getD k 0
/-- The variable float64pow10 as its text lays it. -/
def Pow10F (w : World) : Prop := ∃ g o c, w.cell? ⟨8, 0, none⟩ = some (.slice (some ⟨g, o, none⟩) 23 c) ∧ ∀ k, k < 23 → w.cell? ⟨g, o + k, none⟩ = some (.float .f64 (w10 k))

set_option maxRecDepth 100000 in
set_option maxHeartbeats 400000 in
/-- Too great a mantissa: not exact. -/
theorem c51_big (d : Nat) (p : Int) (w : World) (hi : w.cell? ⟨5, 0, none⟩ = some (.int .u64 52)) (hd : d < 18446744073709551616) (hb : 4503599627370496 ≤ d) :
    Calls Tryd.prog 51 #[.int .u64 d, .int .i64 p, .bool false] w fun r w' => r = .returned (.tuple #[.float .f64 0, .bool false]) ∧ w' = w := by
  obtain ⟨q, hq⟩ : ∃ q : Nat, d / 4503599627370496 = q := ⟨_, rfl⟩
  have hqi : (d : Int) / 4503599627370496 = q := by omega
  have hne : (q : Int) ≠ 0 := by omega
  have hqb : ((q : Int) == 0) = false := beq_eq_false_iff_ne.2 hne
  clear hb hq
  go_enter Tryd.func51, Tryd.ntmps51
  go_wp2
  go_ret2
  exact ⟨rfl, rfl⟩

set_option maxRecDepth 100000 in
set_option maxHeartbeats 400000 in
/-- A whole number. -/
theorem c51_zero (d : Nat) (w : World) (hi : w.cell? ⟨5, 0, none⟩ = some (.int .u64 52)) (hb : d < 4503599627370496) :
    Calls Tryd.prog 51 #[.int .u64 d, .int .i64 0, .bool false] w fun r w' => r = .returned (.tuple #[.float .f64 (floatOfInt .f64 d), .bool true]) ∧ w' = w := by
  have hqi : (d : Int) / 4503599627370496 = 0 := by omega
  go_enter Tryd.func51, Tryd.ntmps51
  go_wp2
  go_ret2
  exact ⟨rfl, rfl⟩
set_option maxRecDepth 100000 in
set_option maxHeartbeats 400000 in
/-- Too small an exponent: not exact. -/
theorem c51_low (d : Nat) (p : Int) (w : World) (hi : w.cell? ⟨5, 0, none⟩ = some (.int .u64 52)) (hb : d < 4503599627370496) (hp : p < -22) :
    Calls Tryd.prog 51 #[.int .u64 d, .int .i64 p, .bool false] w fun r w' => r = .returned (.tuple #[.float .f64 (floatOfInt .f64 d), .bool false]) ∧ w' = w := by
  have hqi : (d : Int) / 4503599627370496 = 0 := by omega
  have h0 : (p == 0) = false := beq_eq_false_iff_ne.2 (by omega)
  have h1 : ¬ (0 : Int) < p := by omega
  have h2 : p < 0 := by omega
  have h3 : ¬ -22 ≤ p := by omega
  clear hp
  go_enter Tryd.func51, Tryd.ntmps51
  go_wp2
  go_ret2
  exact ⟨rfl, rfl⟩
set_option maxRecDepth 100000 in
set_option maxHeartbeats 400000 in
/-- One division. -/
theorem c51_div (d k r : Nat) (w : World) (hi : w.cell? ⟨5, 0, none⟩ = some (.int .u64 52)) (hT : Pow10F w) (hb : d < 4503599627370496) (hk0 : 0 < k) (hk : k ≤ 22) (hr : floatBits .quo .f64 (floatOfInt .f64 d) (w10 k) = some r) :
    Calls Tryd.prog 51 #[.int .u64 d, .int .i64 (-(k : Int)), .bool false] w fun e w' => e = .returned (.tuple #[.float .f64 r, .bool true]) ∧ w' = w := by
  obtain ⟨g, o, c, hs, hc⟩ := hT
  have hck := hc k (by omega)
  have hqi : (d : Int) / 4503599627370496 = 0 := by omega
  have h0 : (-(k : Int) == 0) = false := beq_eq_false_iff_ne.2 (by omega)
  have h1 : ¬ (0 : Int) < -(k : Int) := by omega
  have h2 : -(k : Int) < 0 := by omega
  have h3 : -22 ≤ -(k : Int) := by omega
  have hq := fun w => run_float_arith (P := Tryd.prog) w .quo 23 .f64 (floatOfInt .f64 d) (w10 k) r hr
  clear hc hr
  generalize w10 k = y at *
  go_enter Tryd.func51, Tryd.ntmps51
  go_wp2
  go_ret2
  exact ⟨rfl, rfl⟩
end Go.Proofs.Qxb6600776aDoor
