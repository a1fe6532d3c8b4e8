import Derived.Test.Qxb6000100aDoorAny
import Derived.Test.Qxb6000100aDoorRunes
import Derived.Test.Qxb6000100aDoorShelf
import Derived.Lib.IndexEntry
import Derived.Laws.RangeString
import Derived.Deep.WholeRow
set_option linter.unusedSimpArgs false
set_option linter.unusedVariables false
namespace Go.Proofs.Qxb6000100aDoor
open Go.RowKit Go.Shelf Go.Proofs.Qxb6000100aDoor.Pl

theorem c23 (w : World) : Calls Tryd.prog 23 #[.string ⟨#[44, 125, 32, 9, 13, 10]⟩] w fun e w' => e = .returned (.tuple #[.agg (Lib.setCells cset), .bool true]) ∧ w' = w.alloc (.cells (Lib.setCells cset) 36) :=
  Any.bytes_makeASCIISet Tryd.laysV11 (fun _ => by kernel_rfl) (by kernel_rfl) ⟨#[44, 125, 32, 9, 13, 10]⟩ w (by decide) (fun j b hb => by
    have : (⟨#[44, 125, 32, 9, 13, 10]⟩ : ByteArray).data.toList.all (fun b => decide (b.toNat < 128)) = true := by decide
    exact of_decide_eq_true (List.all_eq_true.1 this b (List.mem_of_getElem? hb)))
theorem c24 (b : Nat) (x : UInt8) (v : Bool) (w : World) (hc : w.cell? ⟨b, x.toNat, none⟩ = some (.bool v)) :
    Calls Tryd.prog 24 #[.pointer (some ⟨b, 0, none⟩), .int .u8 x.toNat] w fun e w' => e = .returned (.bool v) ∧ w' = w :=
  Any.bytes_asciiSet_contains Tryd.laysV16 b x v w hc

theorem run20 (c : Int) (w : World) : (callFunc 20 #[.string ⟨#[44, 125, 32, 9, 13, 10]⟩, .int .u8 c]).run Tryd.prog w = .ok (.value (.int .i64 (Lib.indexByte cset c.toNat.toUInt8))) w := by
  rw [run_callFunc_extern Tryd.func20 (by kernel_rfl) (by kernel_rfl) (by kernel_rfl) (e := Extern.BytealgIndexByte.indexByte) (by kernel_rfl), Lib.run_indexByteString]
  rfl
theorem run26 (b : ByteArray) (m : Int) (w : World) (hm : w.cell? ⟨0, 0, none⟩ = some (.int .i64 m)) (h2 : 2 ≤ b.size) (hb : (b.size : Int) ≤ m) :
    (callFunc 26 #[.string ⟨#[44, 125, 32, 9, 13, 10]⟩, .string b]).run Tryd.prog w = .ok (.value (.int .i64 (Lib.index cset b.data.toList))) w := by
  rw [run_callFunc_extern Tryd.func26 (by kernel_rfl) (by kernel_rfl) (by kernel_rfl) (e := Extern.BytealgIndex.index) (by kernel_rfl),
    Lib.run_indexString ⟨#[44, 125, 32, 9, 13, 10]⟩ b w 0 m (by kernel_rfl) hm h2 hb (by decide)]
  rfl

set_option maxHeartbeats 2000000 in
set_option maxRecDepth 100000 in
/-- One byte. -/
theorem index_one (g o c : Nat) (B : Nat → Int) (w : World) (h0 : 0 ≤ B 0) (h1 : B 0 < 256) (hc : w.cell? ⟨g, o, none⟩ = some (.int .u8 (B 0))) (hd : delim (B 0) = true) :
    Calls Tryd.prog 18 #[.slice (some ⟨g, o, none⟩) 1 c, .string ⟨#[44, 125, 32, 9, 13, 10]⟩] w fun e w' => e = .returned (.int .i64 0) ∧ w' = w := by
  have hl := delim_low _ hd
  have hby := byte_in (B 0) h0 h1
  rw [hd] at hby
  have hge : 0 ≤ Lib.indexByte cset (B 0).toNat.toUInt8 := of_decide_eq_true hby
  have hrun := fun w => run20 (B 0) w
  have hn : ¬ (128 : Int) ≤ B 0 := by omega
  clear hby
  generalize Lib.indexByte cset (B 0).toNat.toUInt8 = r at *
  generalize B 0 = x at *
  go_enter Tryd.func18, Tryd.ntmps18
  go_wp2
  go_ret
  exact ⟨rfl, rfl⟩

set_option maxHeartbeats 4000000 in
set_option maxRecDepth 1000000 in
/-- More than eight bytes: by the set. -/
theorem index_long (g o m c d : Nat) (B : Nat → Int) (w : World) (hm : m ≤ 1048576) (h8 : 8 < m) (hB : ∀ k, 0 ≤ B k ∧ B k < 256) (hc : ∀ k, k < m → w.cell? ⟨g, o + k, none⟩ = some (.int .u8 (B k)))
    (hd : d < m) (hdd : delim (B d) = true) (hnd : ∀ k, k < d → delim (B k) = false) :
    Calls Tryd.prog 18 #[.slice (some ⟨g, o, none⟩) m c, .string ⟨#[44, 125, 32, 9, 13, 10]⟩] w fun e w' => e = .returned (.int .i64 d) ∧ Below w.heap.size w w' := by
  have hg : g < w.heap.size := World.block_lt_of_cell? _ _ (hc 0 (by omega))
  have hn1 : ((m : Int) == 1) = false := beq_eq_false_iff_ne.2 (by omega)
  have h8z : (8 : Int) < m := by omega
  have hi36 : (Tryd.prog.info? 36).map (·.size) = some 256 := by kernel_rfl
  have hv36 : ∀ w, (zeroValue 36).run Tryd.prog w = .ok (.agg (Array.replicate 256 (.bool false))) w := fun _ => by kernel_rfl
  have hsz := Lib.setCells_size cset
  have hsc : (storeCells ⟨w.heap.size + 1, 0, none⟩ (Lib.setCells cset).toList 0).run Tryd.prog ((w.alloc (.cells (Lib.setCells cset) 36)).alloc (.cells (Array.replicate 256 (.bool false)) 36)) = .ok () ((w.alloc (.cells (Lib.setCells cset) 36)).alloc (.cells (Lib.setCells cset) 36)) := by
    have := run_storeCells_new (P := Tryd.prog) (w.alloc (.cells (Lib.setCells cset) 36)) 36 (Array.replicate 256 (.bool false)) (Lib.setCells cset) (by rw [Lib.setCells_size]; exact hi36) (by rw [Lib.setCells_size, Array.size_replicate]) (Lib.setCells_one _)
    simpa using this
  have hcellAt : ∀ x : UInt8, ((w.alloc (.cells (Lib.setCells cset) 36)).alloc (.cells (Lib.setCells cset) 36)).cell? ⟨w.heap.size + 1, x.toNat, none⟩ = some (.bool (cset.contains x)) := fun x => by
    rw [World.cell?_alloc_at _ _ _ _ (by simp), Lib.setCells_at]
  have HC := hide hc
  have HN := hide hnd
  have HA := hide hcellAt
  clear hc hnd hcellAt
  have k23 := c23 w
  go_enter Tryd.func18, Tryd.ntmps18
  go_wp2_with (first | (go_at_call 22; go_in) | (go_at_call 23; refine k23.mono ?_; rintro e w' ⟨rfl, hw⟩; rw [hw]))
  clear k23 hsc hv36 hi36 hsz h8z hn1
  have hB2 : Below w.heap.size w ((w.alloc (.cells (Lib.setCells cset) 36)).alloc (.cells (Lib.setCells cset) 36)) := ((Below.refl _ _).alloc (Nat.le_refl _) _).alloc (by simp) _
  have HC2 : Hid (∀ k, k < m → ((w.alloc (.cells (Lib.setCells cset) 36)).alloc (.cells (Lib.setCells cset) 36)).cell? ⟨g, o + k, none⟩ = some (.int .u8 (B k))) := by
    intro k hk
    rw [hB2.cell (p := ⟨g, o + k, none⟩) hg]; exact unhide HC k hk
  clear HC
  have HB := hide hB
  clear hB
  have Hdd := hide hdd
  clear hdd
  generalize hW : ((w.alloc (.cells (Lib.setCells cset) 36)).alloc (.cells (Lib.setCells cset) 36)) = W at *
  clear hW
  go_loop [62] (fun i => ∃ k : Nat, i = .int .i64 k ∧ k ≤ d) (fun i => m - (intOf i).toNat)
  case atStart => exact ⟨0, rfl, Nat.zero_le _⟩
  case round =>
    obtain ⟨k, rfl, hkd⟩ := hrel
    have hkm : (k : Int) < m := by omega
    have hcx := unhide HC2 k (by omega)
    obtain ⟨x, hx⟩ : ∃ x : UInt8, B k = x.toNat := ⟨(B k).toNat.toUInt8, by have := unhide HB k; simp; omega⟩
    have HX := hide hx
    rw [hx] at hcx
    clear hx
    have hin : Hid (cset.contains x = delim (B k)) := by
      unfold Hid
      have h := byte_in (x.toNat : Int) (by omega) (by have := UInt8.toNat_lt x; omega)
      rw [unhide HX, ← h]
      simp only [Int.toNat_natCast, UInt8.ofNat_toNat]
      exact (Lib.contains_iff_indexByte cset x)
    have k24 := c24 (w.heap.size + 1) x _ W (unhide HA x)
    by_cases hk : k = d
    · have hE : cset.contains x = true := by rw [unhide hin, hk]; exact unhide Hdd
      rw [hE] at k24
      clear hE
      have HK := hide hk
      clear hk
      go_wp2_with (go_at_call 24; refine k24.mono ?_; rintro e w' ⟨rfl, hw⟩; rw [hw])
      go_ret
      exact ⟨ret_int (by rw [unhide HK]), hB2⟩
    · have hE : cset.contains x = false := by rw [unhide hin]; exact unhide HN k (by omega)
      rw [hE] at k24
      have hk' : k < d := by omega
      clear hE hk
      go_wp2_with (go_at_call 24; refine k24.mono ?_; rintro e w' ⟨rfl, hw⟩; rw [hw])
      go_round
      case rel => exact ⟨k + 1, by go_num, by omega⟩
      case measure => simp [intOf]; omega
end Go.Proofs.Qxb6000100aDoor
