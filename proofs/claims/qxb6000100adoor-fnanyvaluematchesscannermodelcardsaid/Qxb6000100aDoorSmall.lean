import Derived.Test.Qxb6000100aDoorProg
import Derived.Test.Qxb6000100aDoorPlain
import Derived.WalkKit
import Derived.WalkSpells
import Derived.Handy
import Derived.WalkSmall
import Derived.Laws.OwnMore
import Derived.Deep.QuietTactic
import Derived.BigQuiet
set_option linter.unusedSimpArgs false
set_option linter.unusedVariables false
namespace Go.Proofs.Qxb6000100aDoor
open Go.RowKit Go.Proofs.Qxb6000100aDoor.Pl

theorem hide {p : Prop} (h : p) : Hid p := h
theorem unhide {p : Prop} (h : Hid p) : p := h
theorem ret_bool {a b : Bool} (h : a = b) : Ending.returned (.bool a) = .returned (.bool b) := by rw [h]
theorem ret_int {k : IntKind} {a b : Int} (h : a = b) : Ending.returned (.int k a) = .returned (.int k b) := by rw [h]
theorem below_drew (w : World) (n : Nat) : Below w.heap.size w (w.drewN n) := below_drewN (Below.refl _ _) n

/-- The bytes B, n of them, lie in block g from its head on. -/
def Lies (w : World) (g n : Nat) (B : Nat → Int) : Prop := ∀ k, k < n → w.cell? ⟨g, k, none⟩ = some (.int .u8 (B k))
theorem Lies.at {w : World} {g n : Nat} {B : Nat → Int} (h : Lies w g n B) (k : Nat) (hk : k < n) : w.cell? ⟨g, k, none⟩ = some (.int .u8 (B k)) := h k hk
theorem Lies.below {w w' : World} {g n : Nat} {B : Nat → Int} (h : Lies w g n B) (hn : 0 < n) (hb : Below w.heap.size w w') : Lies w' g n B := fun k hk => by
  rw [hb.cell (p := ⟨g, k, none⟩) (World.block_lt_of_cell? _ _ (h k hk))]; exact h k hk
theorem Lies.drew {w : World} {g n : Nat} {B : Nat → Int} (h : Lies w g n B) (q : Nat) : Lies (w.drewN q) g n B := h

theorem bytes5 (a : Option Addr) (n cap : Nat) (i : Int) (w : World) (hn : n ≤ maxLen) :
    Calls Tryd.prog 5 #[.slice a n cap, .int .i64 i] w fun e w' => e = .returned (.bool (decide (n ≤ 1048576))) ∧ w' = w := by
  unfold maxLen at hn
  by_cases h : n ≤ 1048576
  · have h1 : ¬ (1048576 : Int) < n := by omega
    rw [decide_eq_true h]
    go_enter Tryd.func5, Tryd.ntmps5
    go_wp2
    go_ret
    exact ⟨rfl, rfl⟩
  · have h1 : (1048576 : Int) < n := by omega
    rw [decide_eq_false h]
    go_enter Tryd.func5, Tryd.ntmps5
    go_wp2
    go_ret
    exact ⟨rfl, rfl⟩

theorem info5 : (Tryd.prog.info? 5).map (fun i => (i.zero, i.size, i.bytes)) = some (some (.int .u8 0), 1, 1) := by kernel_rfl

set_option maxHeartbeats 1000000 in
theorem clone6 (b off n cap : Nat) (B : Nat → Int) (w : World) (hn : n ≤ 1048576) (h0 : 0 < n) (hc : ∀ k, k < n → w.cell? ⟨b, off + k, none⟩ = some (.int .u8 (B k))) :
    Calls Tryd.prog 6 #[.slice (some ⟨b, off, none⟩) n cap] w fun e w' => e = .returned (.slice (some ⟨w.heap.size, 0, none⟩) n n) ∧ Lies w' w.heap.size n B ∧ Below w.heap.size w w' := by
  have hnil := fun w => Lib.run_eql_slice_nil (P := Tryd.prog) w 22 5 (some ⟨b, off, none⟩) n cap 0 0 Tryd.underlying22
  have hbw : b < w.heap.size := World.block_lt_of_cell? _ _ (hc 0 h0)
  obtain ⟨i0, hi, hz0, hz1, hz2⟩ := info_parts info5
  have HC := hide hc
  clear hc
  go_enter Tryd.func6, Tryd.ntmps6
  go_wp2_with (at_make; refine wpList_make_full _ rfl _ _ 22 rfl w.heap.size 5 i0 (.int .u8 0) 1 Tryd.underlying22 hi hz0 hz1 .i64 .i64 _ _ n rfl rfl rfl rfl ?b2 ?b3 ?b4 ?_)
  case b2 => rw [hz2]; omega
  case b3 => unfold maxLen; omega
  case b4 => exact Nat.le_refl _
  intro w1 hown hgrow
  go_wp2
  go_loopw [4] (fun i wr => ∃ k : Nat, k ≤ n ∧ i = .int .i64 k ∧ ∃ xs, wr.ownsRow w.heap.size 5 1 (.slice (some ⟨w.heap.size, 0, none⟩) n n) n xs ∧ (∀ j, j < k → xs[j]? = some (.int .u8 (B j))) ∧ Below w.heap.size w wr) (fun i _ => n - (intOf i).toNat)
  case atStart => exact ⟨0, Nat.zero_le _, rfl, _, hown, fun j hj => by omega, (Below.refl _ _).grown hgrow (Nat.le_refl _) (fun k hk => by cases hk)⟩
  case round =>
    clear hown hgrow
    obtain ⟨k, hk, rfl, xs, hown, hxs, hbel⟩ := hrel
    have hxl : xs.length = n := by have := hown.1; omega
    by_cases hlt : k < n
    · have hcx : wr.cell? ⟨b, off + k, none⟩ = some (.int .u8 (B k)) := (hbel.cell (p := ⟨b, off + k, none⟩) hbw).trans (unhide HC k hlt)
      obtain ⟨v0, hv0⟩ : ∃ v0, xs[k]? = some v0 := ⟨xs[k], List.getElem?_eq_getElem (by omega)⟩
      have hgx : wr.cell? ⟨w.heap.size, k, none⟩ = some v0 := by rw [hown.cellAt k (by omega)]; exact hv0
      have hfx : wr.frozen? ⟨w.heap.size, k, none⟩ = false := hown.frozenAt k
      obtain ⟨hown', hgrow'⟩ := hown.stored k (.int .u8 (B k))
      have hbel' := hbel.setCell (p := ⟨w.heap.size, k, none⟩) (Nat.le_refl _) (.int .u8 (B k))
      have HX := hide hxs
      have HO := hide hown'
      clear hxs hown' hown hgrow' hv0
      go_wp2
      go_roundw
      case rel =>
        refine ⟨k + 1, by omega, by go_num, _, unhide HO, fun j hj => ?_, hbel'⟩
        by_cases e : j = k
        · subst e; rw [List.getElem?_set_self (by omega)]
        · rw [List.getElem?_set_ne (by omega)]; exact unhide HX j (by omega)
      case measure => simp [intOf]; omega
    · obtain rfl : k = n := by omega
      go_wp2
      go_ret
      exact ⟨rfl, fun j hj => by rw [hown.cellAt j (by omega)]; exact hxs j hj, hbel⟩
end Go.Proofs.Qxb6000100aDoor
