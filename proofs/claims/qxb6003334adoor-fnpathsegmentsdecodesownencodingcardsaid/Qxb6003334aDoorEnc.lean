import Derived.Test.Qxb6003334aDoorSmall
import Derived.Laws.IdiomStrings
import Derived.Lib.UnsafeStr
set_option linter.unusedSimpArgs false
set_option linter.unusedVariables false
namespace Go.Proofs.Qxb6003334aDoor
open Go.RowKit Go.Proofs.Qxb6003334aDoor.Pl

/-- The strings ss, n of them, lie in block g from its head on. -/
def LiesS (w : World) (g n : Nat) (ss : Nat → ByteArray) : Prop := ∀ k, k < n → w.cell? ⟨g, k, none⟩ = some (.string (ss k))
theorem LiesS.below {w w' : World} {g n : Nat} {ss : Nat → ByteArray} (h : LiesS w g n ss) (hb : Below w.heap.size w w') : LiesS w' g n ss := fun k hk => by
  rw [hb.cell (p := ⟨g, k, none⟩) (World.block_lt_of_cell? _ _ (h k hk))]; exact h k hk

def Post5 (n : Nat) (ss : Nat → ByteArray) (e : Ending) : Prop := ∃ r : Bool, e = .returned (.bool r) ∧ (r = true → ∀ k, k < n → (ss k).size ≤ 1048576)
set_option maxHeartbeats 1000000 in
/-- The bound on the total length: where it says yes each string is short. -/
theorem bytes5 (a : Option Addr) (b off n cap : Nat) (ss : Nat → ByteArray) (w : World) (hn : n ≤ maxLen) (ha : 0 < n → a = some ⟨b, off, none⟩) (hc : ∀ k, k < n → w.cell? ⟨b, off + k, none⟩ = some (.string (ss k))) :
    Calls Tryd.prog 5 #[.slice a n cap] w fun e w' => Post5 n ss e ∧ w' = w := by
  unfold maxLen at hn
  by_cases h1 : n ≤ 1048576
  · have h1' : ¬ (1048576 : Int) < n := by omega
    have HC := hide hc
    have HA := hide ha
    clear hc ha
    go_enter Tryd.func5, Tryd.ntmps5
    go_wp2
    go_loop [3, 4] (fun z i => ∃ k t : Nat, i = .int .i64 k ∧ z = .int .i64 t ∧ k ≤ n ∧ t ≤ 1048576 ∧ Hid (∀ j, j < k → (ss j).size ≤ 1048576)) (fun _ i => n - (intOf i).toNat)
    case atStart => exact ⟨0, n, rfl, rfl, by omega, by omega, fun j hj => by omega⟩
    case round =>
      obtain ⟨k, t, rfl, rfl, hk, ht, HS⟩ := hrel
      by_cases hlt : k < n
      · have hcx := unhide HC k hlt
        obtain ⟨s, hs⟩ : ∃ s, ss k = s := ⟨_, rfl⟩
        rw [hs] at hcx
        have HSS := hide hs
        have ha := unhide HA (by omega)
        subst ha
        clear hs
        by_cases h2 : s.size ≤ 1048576
        · have h2' : ¬ (1048576 : Int) < s.size := by omega
          by_cases h3 : t + s.size ≤ 1048576
          · have h3' : ¬ (1048576 : Int) < (t : Int) + s.size := by omega
            go_wp2
            go_round
            case rel =>
              refine ⟨k + 1, t + s.size, by go_num, by go_num, by omega, by omega, fun j hj => ?_⟩
              by_cases e : j = k
              · subst e; rw [unhide HSS]; exact h2
              · exact unhide HS j (by omega)
            case measure => simp [intOf]; omega
          · have h3' : (1048576 : Int) < (t : Int) + s.size := by omega
            go_wp2
            go_ret
            exact ⟨⟨false, rfl, fun h => by cases h⟩, rfl⟩
        · have h2' : (1048576 : Int) < s.size := by omega
          go_wp2
          go_ret
          exact ⟨⟨false, rfl, fun h => by cases h⟩, rfl⟩
      · obtain rfl : k = n := by omega
        go_wp2
        go_ret
        exact ⟨⟨true, rfl, fun _ => unhide HS⟩, rfl⟩
  · have h1' : (1048576 : Int) < n := by omega
    go_enter Tryd.func5, Tryd.ntmps5
    go_wp2
    go_ret
    exact ⟨⟨false, rfl, fun h => by cases h⟩, rfl⟩

theorem info9 : (Tryd.prog.info? 9).map (fun i => (i.zero, i.size, i.bytes)) = some (some (.string ⟨#[]⟩), 1, 16) := by kernel_rfl
set_option maxHeartbeats 1000000 in
theorem clone6 (b off n cap : Nat) (ss : Nat → ByteArray) (w : World) (hn : n ≤ 1048576) (h0 : 0 < n) (hc : ∀ k, k < n → w.cell? ⟨b, off + k, none⟩ = some (.string (ss k))) :
    Calls Tryd.prog 6 #[.slice (some ⟨b, off, none⟩) n cap] w fun e w' => e = .returned (.slice (some ⟨w.heap.size, 0, none⟩) n n) ∧ LiesS w' w.heap.size n ss ∧ Below w.heap.size w w' := by
  have hnil := fun w => Lib.run_eql_slice_nil (P := Tryd.prog) w 22 9 (some ⟨b, off, none⟩) n cap 0 0 Tryd.underlying22
  have hbw : b < w.heap.size := World.block_lt_of_cell? _ _ (hc 0 h0)
  obtain ⟨i0, hi, hz0, hz1, hz2⟩ := info_parts info9
  have HC := hide hc
  clear hc
  go_enter Tryd.func6, Tryd.ntmps6
  go_wp2_with (at_make; refine wpList_make_full _ rfl _ _ 22 rfl w.heap.size 9 i0 (.string ⟨#[]⟩) 1 Tryd.underlying22 hi hz0 hz1 .i64 .i64 _ _ n rfl rfl rfl rfl ?b2 ?b3 ?b4 ?_)
  case b2 => rw [hz2]; omega
  case b3 => unfold maxLen; omega
  case b4 => exact Nat.le_refl _
  intro w1 hown hgrow
  go_wp2
  go_loopw [4] (fun i wr => ∃ k : Nat, k ≤ n ∧ i = .int .i64 k ∧ ∃ xs, wr.ownsRow w.heap.size 9 1 (.slice (some ⟨w.heap.size, 0, none⟩) n n) n xs ∧ (∀ j, j < k → xs[j]? = some (.string (ss j))) ∧ Below w.heap.size w wr) (fun i _ => n - (intOf i).toNat)
  case atStart => exact ⟨0, Nat.zero_le _, rfl, _, hown, fun j hj => by omega, (Below.refl _ _).grown hgrow (Nat.le_refl _) (fun k hk => by cases hk)⟩
  case round =>
    clear hown hgrow
    obtain ⟨k, hk, rfl, xs, hown, hxs, hbel⟩ := hrel
    have hxl : xs.length = n := by have := hown.1; omega
    by_cases hlt : k < n
    · have hcx : wr.cell? ⟨b, off + k, none⟩ = some (.string (ss k)) := (hbel.cell (p := ⟨b, off + k, none⟩) hbw).trans (unhide HC k hlt)
      obtain ⟨v0, hv0⟩ : ∃ v0, xs[k]? = some v0 := ⟨xs[k], List.getElem?_eq_getElem (by omega)⟩
      have hgx : wr.cell? ⟨w.heap.size, k, none⟩ = some v0 := by rw [hown.cellAt k (by omega)]; exact hv0
      have hfx : wr.frozen? ⟨w.heap.size, k, none⟩ = false := hown.frozenAt k
      obtain ⟨hown', hgrow'⟩ := hown.stored k (.string (ss k))
      have hbel' := hbel.setCell (p := ⟨w.heap.size, k, none⟩) (Nat.le_refl _) (.string (ss k))
      have HX := hide hxs
      have HO := hide hown'
      clear hxs hown' hown hgrow' hv0
      go_wp2
      go_roundw
      case rel =>
        refine ⟨k + 1, by omega, by go_num, _, unhide HO, fun j hj => ?_, hbel'⟩
        by_cases e : j = k
        · subst e; rw [List.getElem?_set_self (by omega)]
        · rw [List.getElem?_set_ne (by omega)]; exact unhide HX j (by omega)
      case measure => simp [intOf]; omega
    · obtain rfl : k = n := by omega
      go_wp2
      go_ret
      exact ⟨rfl, fun j hj => by rw [hown.cellAt j (by omega)]; exact hxs j hj, hbel⟩

theorem unres_def (c : UInt8) : unres c = ((decide (97 ≤ (c.toNat : Int)) && decide ((c.toNat : Int) ≤ 122)) || ((decide (65 ≤ (c.toNat : Int)) && decide ((c.toNat : Int) ≤ 90)) || ((decide (48 ≤ (c.toNat : Int)) && decide ((c.toNat : Int) ≤ 57)) || ((c.toNat : Int) == 45 || ((c.toNat : Int) == 46 || ((c.toNat : Int) == 95 || (c.toNat : Int) == 126)))))) := by
  unfold unres
  rw [Bool.eq_iff_iff]
  simp only [Bool.or_eq_true, Bool.and_eq_true, decide_eq_true_eq, beq_iff_eq]
  omega
set_option maxHeartbeats 4000000 in
theorem unres11 (c : UInt8) (w : World) : Calls Tryd.prog 11 #[.int .u8 c.toNat] w fun e w' => e = .returned (.bool (unres c)) ∧ w' = w := by
  have HD := hide (unres_def c)
  generalize (c.toNat : Int) = x at *
  go_enter Tryd.func11, Tryd.ntmps11
  go_wp2
  all_goals go_ret
  all_goals exact ⟨ret_bool (by rw [unhide HD, Bool.eq_iff_iff]; simp; omega), rfl⟩
def hexI (x : Int) : Int := if x < 10 then 48 + x else 55 + x
theorem hexI_is (n : Nat) (h : n < 16) : ((hexU n).toNat : Int) = hexI n := by
  have : ∀ k : Fin 16, ((hexU k.val).toNat : Int) = hexI k.val := by decide
  exact this ⟨n, h⟩
set_option maxHeartbeats 1000000 in
theorem hexUp12 (x : Int) (w : World) (h0 : 0 ≤ x) (h1 : x < 16) : Calls Tryd.prog 12 #[.int .u8 x] w fun e w' => e = .returned (.int .u8 (hexI x)) ∧ w' = w := by
  have HD : Hid (hexI x = if x < 10 then 48 + x else 55 + x) := by unfold Hid; rfl
  by_cases h : x < 10
  · go_enter Tryd.func12, Tryd.ntmps12
    go_wp2
    go_ret
    exact ⟨ret_int (by rw [unhide HD, if_pos (by omega)]), rfl⟩
  · go_enter Tryd.func12, Tryd.ntmps12
    go_wp2
    go_ret
    exact ⟨ret_int (by rw [unhide HD, if_neg (by omega)]; omega), rfl⟩
end Go.Proofs.Qxb6003334aDoor
