import Derived.Test.Qxb6000054aDoorPort
set_option linter.unusedSimpArgs false
set_option linter.unusedVariables false
namespace Go.Proofs.Qxb6000054aDoor
open Go.RowKit Go.Shelf Go.Proofs.Qxb6000054aDoor.Pl

theorem port_is_model (s : ByteArray) : portR s = modR s := by
  unfold portR modR
  rcases Lib.lastIndexByte_spec s 58 with ⟨h, hno⟩ | ⟨i, hi, h, hc, hno⟩
  · rw [if_pos h, cnt_zero s hno]; rfl
  · rw [if_neg (by omega), h]
    rw [data_at s i hi] at hc
    have := modB_eq s i hi hc (drop_free s i hno)
    have hp := cnt_pos s i hi hc
    simp only [Int.toNat_natCast, hp, decide_true, Bool.true_and]
    exact this.symm

set_option maxHeartbeats 1000000 in
theorem law3 (s : ByteArray) (w : World) (hs : s.size ≤ maxLen) :
    Calls Tryd.prog 3 #[.string s] w fun e w' => e = .returned (.bool true) ∧ Below w.heap.size w w' := by
  have k6 := bytes6 s w hs
  unfold maxLen at hs
  by_cases h : s.size ≤ 1048576
  · have k7 := zz7 s w (by omega)
    have k8 := fun w => model8 s w h
    rw [port_is_model] at k7
    generalize modR s = b at k7 k8
    have hh : ¬ (1048576 : Int) < s.size := by omega
    rw [decide_eq_true h] at k6
    go_enter Tryd.func3, Tryd.ntmps3
    go_wp2_with fail
    refine k6.mono ?_
    rintro e w' ⟨rfl, rfl⟩
    go_wp2_with fail
    refine k7.mono ?_
    rintro e w1 ⟨rfl, hb⟩
    go_wp2_with fail
    refine (k8 _).mono ?_
    rintro e w2 ⟨rfl, rfl⟩
    go_wp2
    go_ret
    exact ⟨ret_bool (by simp), hb⟩
  · rw [decide_eq_false h] at k6
    go_enter Tryd.func3, Tryd.ntmps3
    go_wp2_with fail
    refine k6.mono ?_
    rintro e w' ⟨rfl, rfl⟩
    go_wp2
    go_ret
    exact ⟨rfl, Below.refl _ _⟩
end Go.Proofs.Qxb6000054aDoor
