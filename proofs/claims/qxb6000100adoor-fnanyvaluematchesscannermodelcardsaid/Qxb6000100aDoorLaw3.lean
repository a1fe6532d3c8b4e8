import Derived.Test.Qxb6000100aDoorIndexC
set_option linter.unusedSimpArgs false
set_option linter.unusedVariables false
namespace Go.Proofs.Qxb6000100aDoor
open Go.RowKit Go.Shelf Go.Proofs.Qxb6000100aDoor.Pl

theorem said18 (g n : Nat) (B : Nat → Int) (i : Nat) (w : World) (hn : n ≤ 1048576) (hi : i < n) (hB : ∀ k, 0 ≤ B k ∧ B k < 256) (hc : Lies w g n B) (hT : Lib.Utf8Tabs 1 2 w) (mx : Int) (hM : w.cell? ⟨0, 0, none⟩ = some (.int .i64 mx)) :
    Said18 g n B i w := by
  intro d hb
  obtain ⟨h1, h2, h3, h4⟩ := bare_spec B n n i (i + d) hb
  have hc' : ∀ k, k < n - i → w.cell? ⟨g, i + k, none⟩ = some (.int .u8 ((fun k => B (i + k)) k)) := fun k hk => hc (i + k) (by omega)
  have hB' : ∀ k, 0 ≤ (fun k => B (i + k)) k ∧ (fun k => B (i + k)) k < 256 := fun k => hB (i + k)
  have hnd : ∀ k, k < d → delim ((fun k => B (i + k)) k) = false := fun k hk => h4 (i + k) (by omega) (by omega)
  by_cases e1 : n - i = 1
  · rw [e1]
    obtain rfl : d = 0 := by omega
    refine (index_one g i 1 (fun k => B (i + k)) w (hB i).1 (hB i).2 (hc i hi) h3).mono ?_
    rintro e w' ⟨rfl, rfl⟩
    exact ⟨rfl, Below.refl _ _⟩
  · by_cases e8 : n - i ≤ 8
    · exact index_short g i (n - i) (n - i) d (fun k => B (i + k)) w (Nat.le_refl _) (by omega) e8 hB' hc' (by omega) h3 hnd hT mx hM
    · exact index_long g i (n - i) (n - i) d (fun k => B (i + k)) w (by omega) (by omega) hB' hc' (by omega) h3 hnd

set_option maxHeartbeats 1000000 in
theorem zz8 (g n : Nat) (B : Nat → Int) (i m : Nat) (w : World) (hn : n ≤ 1048576) (hc : Lies w g n B) (hi : i < n) (k18 : Said18 g n B i w) (hm : modelEnd B n i = some m) :
    Calls Tryd.prog 8 #[.slice (some ⟨g, 0, none⟩) n n, .int .i64 i] w fun r w' => r = .returned (.tuple #[.slice (some ⟨g, i, none⟩) (m - i) (n - i), .int .i64 m]) ∧ Below w.heap.size w w' := by
  have k := any15 g n B i m w hn hc hi k18 hm
  clear k18 hm hc
  go_enter Tryd.func8, Tryd.ntmps8
  go_wp2_with fail
  refine k.mono ?_
  rintro e w' ⟨rfl, hb⟩
  go_wp2
  go_ret2
  exact ⟨rfl, hb⟩

theorem model_le (B : Nat → Int) (n i m : Nat) (h : modelEnd B n i = some m) : i ≤ m ∧ m ≤ n := by
  unfold modelEnd at h
  split at h
  · have := quotedM_le B n i _ _ _ h; omega
  · split at h
    · have := nest_le B n _ _ _ _ _ _ h; omega
    · have := bare_spec B n _ _ _ h; omega

set_option maxHeartbeats 1000000 in
/-- The law, at a line that is no longer than the law's bound and an index within it. -/
theorem law3_in (b off n cap : Nat) (B : Nat → Int) (i : Nat) (w : World) (hn : n ≤ 1048576) (hi : i < n) (hB : ∀ k, 0 ≤ B k ∧ B k < 256) (hc : ∀ k, k < n → w.cell? ⟨b, off + k, none⟩ = some (.int .u8 (B k)))
    (hT : Lib.Utf8Tabs 1 2 w) (mx : Int) (hM : w.cell? ⟨0, 0, none⟩ = some (.int .i64 mx)) :
    Calls Tryd.prog 3 #[.slice (some ⟨b, off, none⟩) n cap, .int .i64 i] w fun e w' => e = .returned (.bool true) ∧ Below w.heap.size w w' := by
  have k5 := bytes5 (some ⟨b, off, none⟩) n cap i w (by unfold maxLen; omega)
  rw [decide_eq_true hn] at k5
  have k6 := clone6 b off n cap B w hn (by omega) hc
  have hg0 : 0 < w.heap.size := World.block_lt_of_cell? _ _ hM
  have h1 : ¬ (1048576 : Int) < n := by omega
  have h2 : ¬ (i : Int) < 0 := by omega
  have h3 : ¬ (n : Int) ≤ i := by omega
  have HB := hide hB
  have HT := hide hT
  have HM := hide hM
  clear hc hB hT hM
  go_enter Tryd.func3, Tryd.ntmps3
  go_wp2_with fail
  refine k5.mono ?_
  rintro e w0 ⟨rfl, rfl⟩
  clear k5
  go_wp2_with fail
  refine k6.mono ?_
  rintro e w1 ⟨rfl, hL, hb1⟩
  clear k6
  have hT1 := Utf8Tabs_below (unhide HT) hb1
  have hM1 : w1.cell? ⟨0, 0, none⟩ = some (.int .i64 mx) := (hb1.cell (p := ⟨0, 0, none⟩) hg0).trans (unhide HM)
  have k18 := said18 w0.heap.size n B i w1 hn hi (unhide HB) hL hT1 mx hM1
  have k7 := end7 w0.heap.size n B i w1 hn hL hi
  have k8 := fun m hm => zz8 w0.heap.size n B i m w1 hn hL hi k18 hm
  have hgs := World.block_lt_of_cell? _ _ (hL 0 (by omega))
  clear k18 hT1 hM1 HM HT
  generalize hgg : w0.heap.size = g at *
  have HG := hide hgg
  clear hgg
  have HL := hide hL
  clear hL
  cases hme : modelEnd B n i with
  | none =>
    rw [hme] at k7
    clear k8 hme
    go_wp2_with fail
    refine k7.mono ?_
    rintro e w2 ⟨rfl, rfl⟩
    have hneg : endOf none < 0 := by decide
    go_wp2
    go_ret
    exact ⟨rfl, by rw [unhide HG]; exact hb1⟩
  | some m =>
    rw [hme] at k7
    have hle := model_le B n i m hme
    have k8' := k8 m hme
    clear k8 hme
    have hmi : (i : Int) ≤ m := by omega
    have hmn : (m : Int) ≤ n := by omega
    have k9 := fun w hc => same9 g i (m - i) (n - i) (n - i) (fun k => B (i + k)) w (by omega) hc
    have k7' : Calls Tryd.prog 7 #[.slice (some ⟨g, 0, none⟩) n n, .int .i64 i] w1 fun r w' => r = .returned (.int .i64 m) ∧ w' = w1 := k7
    clear k7
    go_wp2_with fail
    refine k7'.mono ?_
    rintro e w2 ⟨rfl, rfl⟩
    clear k7'
    go_wp2_with fail
    refine k8'.mono ?_
    rintro e w3 ⟨rfl, hb3⟩
    clear k8'
    have hlen : (((m - i : Nat) : Int) == (m : Int) - i) = true := by simp; omega
    go_wp2_with fail
    refine (k9 w3 (fun k hk => by
      rw [hb3.cell (p := ⟨g, i + k, none⟩) hgs]
      exact unhide HL (i + k) (by omega))).mono ?_
    rintro e w4 ⟨rfl, q, rfl⟩
    go_wp2
    go_ret
    exact ⟨rfl, by rw [unhide HG]; exact below_drewN (hb1.trans (hb3.mono (by omega))) q⟩

set_option maxHeartbeats 1000000 in
/-- The law, where it answers at once. -/
theorem law3_out (a : Option Addr) (n cap : Nat) (i : Int) (w : World) (hn : n ≤ maxLen) (h : 1048576 < n ∨ i < 0 ∨ (n : Int) ≤ i) :
    Calls Tryd.prog 3 #[.slice a n cap, .int .i64 i] w fun e w' => e = .returned (.bool true) ∧ w' = w := by
  have k5 := bytes5 a n cap i w hn
  unfold maxLen at hn
  by_cases h1 : n ≤ 1048576
  · rw [decide_eq_true h1] at k5
    have h1' : ¬ (1048576 : Int) < n := by omega
    by_cases h2 : i < 0
    · go_enter Tryd.func3, Tryd.ntmps3
      go_wp2_with fail
      refine k5.mono ?_
      rintro e w0 ⟨rfl, rfl⟩
      go_wp2
      go_ret
      exact ⟨rfl, rfl⟩
    · have h3 : (n : Int) ≤ i := by omega
      go_enter Tryd.func3, Tryd.ntmps3
      go_wp2_with fail
      refine k5.mono ?_
      rintro e w0 ⟨rfl, rfl⟩
      go_wp2
      go_ret
      exact ⟨rfl, rfl⟩
  · rw [decide_eq_false h1] at k5
    go_enter Tryd.func3, Tryd.ntmps3
    go_wp2_with fail
    refine k5.mono ?_
    rintro e w0 ⟨rfl, rfl⟩
    go_wp2
    go_ret
    exact ⟨rfl, rfl⟩
end Go.Proofs.Qxb6000100aDoor
