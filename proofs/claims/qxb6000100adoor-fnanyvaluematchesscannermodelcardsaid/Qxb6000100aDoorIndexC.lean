import Derived.Test.Qxb6000100aDoorIndexB
import Derived.Deep.LoopGhost
set_option linter.unusedSimpArgs false
set_option linter.unusedVariables false
namespace Go.Proofs.Qxb6000100aDoor
open Go.RowKit Go.Shelf Go.Proofs.Qxb6000100aDoor.Pl

theorem next_char (w : World) (p : Nat) (hp : p < 6) : ∃ x : Nat, x < 128 ∧ 0 ≤ x ∧ ∀ ty, (Instr.next (.pointer (some ⟨w.heap.size, 0, none⟩)) true ty).run Tryd.prog (w.iter ⟨#[44, 125, 32, 9, 13, 10]⟩ p) =
      .ok (.tuple #[.bool true, .int .i64 p, .int .i32 x]) (w.iter ⟨#[44, 125, 32, 9, 13, 10]⟩ (p + 1)) := by
  have hlow : ∀ q : Fin 6, (((⟨#[44, 125, 32, 9, 13, 10]⟩ : ByteArray)[q.val]'(q.isLt)).toNat) < 128 := by decide
  have hl := hlow ⟨p, hp⟩
  exact ⟨_, hl, Nat.zero_le _, fun ty => run_next_ascii (P := Tryd.prog) w ⟨#[44, 125, 32, 9, 13, 10]⟩ p ty hp hl⟩

set_option maxHeartbeats 4000000 in
set_option maxRecDepth 1000000 in
/-- Two to eight bytes: rune by rune. -/
theorem index_short (g o m c d : Nat) (B : Nat → Int) (w : World) (hmc : m ≤ c) (h2 : 2 ≤ m) (h8 : m ≤ 8) (hB : ∀ k, 0 ≤ B k ∧ B k < 256) (hc : ∀ k, k < m → w.cell? ⟨g, o + k, none⟩ = some (.int .u8 (B k)))
    (hd : d < m) (hdd : delim (B d) = true) (hnd : ∀ k, k < d → delim (B k) = false) (hT : Lib.Utf8Tabs 1 2 w) (mx : Int) (hM : w.cell? ⟨0, 0, none⟩ = some (.int .i64 mx)) :
    Calls Tryd.prog 18 #[.slice (some ⟨g, o, none⟩) m c, .string ⟨#[44, 125, 32, 9, 13, 10]⟩] w fun e w' => e = .returned (.int .i64 d) ∧ Below w.heap.size w w' := by
  have hg : g < w.heap.size := World.block_lt_of_cell? _ _ (hc 0 (by omega))
  have hg0 : 0 < w.heap.size := by omega
  have hn1 : ((m : Int) == 1) = false := beq_eq_false_iff_ne.2 (by omega)
  have h8z : ¬ (8 : Int) < m := by omega
  have HC := hide hc
  have HN := hide hnd
  have HB := hide hB
  have HD := hide hdd
  have HT := hide hT
  have HM := hide hM
  clear hc hnd hB hdd hT hM
  go_enter Tryd.func18, Tryd.ntmps18
  go_wp2_with (go_at_call 22; go_in)
  go_loopw [12] (fun i wr => ∃ k : Nat, i = .int .i64 k ∧ k ≤ d ∧ Below w.heap.size w wr) (fun i _ => m - (intOf i).toNat)
  case atStart => exact ⟨0, rfl, Nat.zero_le _, Below.refl _ _⟩
  case round =>
    obtain ⟨k, rfl, hkd, hbel⟩ := hrel
    have hkm : (k : Int) < m := by omega
    have hcx : wr.cell? ⟨g, o + k, none⟩ = some (.int .u8 (B k)) := (hbel.cell (p := ⟨g, o + k, none⟩) hg).trans (unhide HC k (by omega))
    have hbk := unhide HB k
    by_cases hlow : B k < 128
    · have hby := byte_in (B k) hbk.1 hbk.2
      have hrun := fun w => run20 (B k) w
      by_cases hk : k = d
      · have hge : 0 ≤ Lib.indexByte cset (B k).toNat.toUInt8 := by
          refine of_decide_eq_true ?_
          rw [hby, hk]; exact unhide HD
        clear hby
        have HK := hide hk
        clear hk
        generalize Lib.indexByte cset (B k).toNat.toUInt8 = r at hge hrun
        go_wp2
        go_ret
        exact ⟨ret_int (by rw [unhide HK]), hbel⟩
      · have hlt : ¬ 0 ≤ Lib.indexByte cset (B k).toNat.toUInt8 := by
          refine of_decide_eq_false ?_
          rw [hby]; exact unhide HN k (by omega)
        have hk' : k < d := by omega
        clear hby hk
        generalize Lib.indexByte cset (B k).toNat.toUInt8 = r at hlt hrun
        go_wp2
        go_roundw
        case rel => exact ⟨k + 1, by go_num, by omega, hbel⟩
        case measure => simp [intOf]; omega
    · have h128 : 128 ≤ B k := by omega
      have hkd' : k < d := by
        rcases Nat.lt_or_eq_of_le hkd with h | h
        · exact h
        · exfalso; have := delim_low _ (unhide HD); rw [← h] at this; omega
      have k25 := c25 g (o + k) (m - k) (c - k) k B (unhide HB) wr (by omega) (Utf8Tabs_below (unhide HT) hbel) (fun j hj => by
        rw [Nat.add_assoc]
        exact (hbel.cell (p := ⟨g, o + (k + j), none⟩) hg).trans (unhide HC (k + j) (by omega))) h128
      have hm0 : wr.cell? ⟨0, 0, none⟩ = some (.int .i64 mx) := (hbel.cell (p := ⟨0, 0, none⟩) hg0).trans (unhide HM)
      have HM0 := hide hm0
      clear hm0
      go_wp2_with fail
      refine k25.mono ?_
      rintro e w1 ⟨⟨r, wd, rfl, hr1, hr2, hw1, hw2, hw3, hcont, henc⟩, hb1⟩
      clear k25
      have HE := hide henc
      have HCt := hide hcont
      clear henc hcont
      have hkw : k + wd ≤ d := by
        rcases Nat.lt_or_ge d (k + wd) with h | h
        · exfalso
          have h1 := unhide HCt (d - k) (by omega) (by omega)
          rw [show k + (d - k) = d by omega] at h1
          have := delim_low _ (unhide HD)
          omega
        · exact h
      have hbel1 := hbel.trans (hb1.mono hbel.size)
      have hm1 : w1.cell? ⟨0, 0, none⟩ = some (.int .i64 mx) := (hbel1.cell (p := ⟨0, 0, none⟩) hg0).trans (unhide HM)
      have h6 : ((6 : Int) == (wd : Int)) = false := beq_eq_false_iff_ne.2 (by omega)
      clear HM0 hb1 hcx HCt
      by_cases hr : r = 65533
      · subst hr
        clear HE hm1
        go_wp2
        go_loopg [15] 6 (fun q _ wx => ∃ p : Nat, p + q = 6 ∧ wx = w1.iter ⟨#[44, 125, 32, 9, 13, 10]⟩ p)
        case atStart => exact ⟨0, rfl, rfl⟩
        case round =>
          obtain ⟨p, hp, rfl⟩ := hrel
          cases gk with
          | zero =>
            obtain rfl : p = 6 := by omega
            have hnx := fun ty => run_next_end (P := Tryd.prog) w1 ⟨#[44, 125, 32, 9, 13, 10]⟩ 6 ty (by decide)
            go_wp2
            go_roundw
            case rel => exact ⟨k + wd, by go_num, by omega, hbel1.trans ((Below.refl _ _).alloc hbel1.size _)⟩
            case measure => simp [intOf]; omega
          | succ q =>
            obtain ⟨x, hx1, hx2, hnx⟩ := next_char w1 p (by omega)
            have hne : ((65533 : Int) == (x : Int)) = false := beq_eq_false_iff_ne.2 (by omega)
            go_wp2
            go_roundg q
            case measure => omega
            case rel => exact ⟨p + 1, by omega, rfl⟩
      · obtain ⟨hwd2, hsz, hidx⟩ := unhide HE hr
        have hrb : ((r : Int) != 65533) = true := by rw [bne_iff_ne]; omega
        clear HE
        by_cases hmx : (wd : Int) ≤ mx
        · have h26 := run26 (Utf8.encode r) mx w1 hm1 (by omega) (by rw [hsz]; exact hmx)
          rw [hidx] at h26
          clear hidx hsz hr
          go_wp2
          go_roundw
          case rel => exact ⟨k + wd, by go_num, by omega, hbel1⟩
          case measure => simp [intOf]; omega
        · clear hidx hsz hr
          go_wp2
          go_loopg [15] 6 (fun q _ wx => ∃ p : Nat, p + q = 6 ∧ wx = w1.iter ⟨#[44, 125, 32, 9, 13, 10]⟩ p)
          case atStart => exact ⟨0, rfl, rfl⟩
          case round =>
            obtain ⟨p, hp, rfl⟩ := hrel
            cases gk with
            | zero =>
              obtain rfl : p = 6 := by omega
              have hnx := fun ty => run_next_end (P := Tryd.prog) w1 ⟨#[44, 125, 32, 9, 13, 10]⟩ 6 ty (by decide)
              go_wp2
              go_roundw
              case rel => exact ⟨k + wd, by go_num, by omega, hbel1.trans ((Below.refl _ _).alloc hbel1.size _)⟩
              case measure => simp [intOf]; omega
            | succ q =>
              obtain ⟨x, hx1, hx2, hnx⟩ := next_char w1 p (by omega)
              have hne : ((r : Int) == (x : Int)) = false := beq_eq_false_iff_ne.2 (by omega)
              go_wp2
              go_roundg q
              case measure => omega
              case rel => exact ⟨p + 1, by omega, rfl⟩
end Go.Proofs.Qxb6000100aDoor
