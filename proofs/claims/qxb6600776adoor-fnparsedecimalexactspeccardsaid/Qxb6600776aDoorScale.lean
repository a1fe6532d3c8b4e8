import Derived.Test.Qxb6600776aDoorSmall
import GoSem.PinnedTables
set_option linter.unusedSimpArgs false
set_option linter.unusedVariables false
namespace Go.Proofs.Qxb6600776aDoor
open Go.RowKit Go.Shelf

/-- A block of cells, none frozen. -/
def Blk (w : World) (b : Nat) (t : TypeId) (cs : Array Value) : Prop := w.heap[b]? = some (.cells cs t (0, 0))
theorem Blk.cell {w : World} {b : Nat} {t : TypeId} {cs : Array Value} (h : Blk w b t cs) (k : Nat) : w.cell? ⟨b, k, none⟩ = cs[k]? := by
  unfold Blk at h; simp [World.cell?, h]
theorem Blk.frozen {w : World} {b : Nat} {t : TypeId} {cs : Array Value} (h : Blk w b t cs) (k : Nat) : w.frozen? ⟨b, k, none⟩ = false := frozen_of_row w b k cs t h
theorem Blk.set {w : World} {b : Nat} {t : TypeId} {cs : Array Value} (h : Blk w b t cs) (k : Nat) (v : Value) : Blk (w.setCell ⟨b, k, none⟩ v) b t (cs.setIfInBounds k v) := heap_setCell_same w b k cs t v h
theorem Blk.below {w w' : World} {b B : Nat} {t : TypeId} {cs : Array Value} (h : Blk w b t cs) (hb : Below B w w') (hB : b < B) : Blk w' b t cs := (hb.block b hB).trans h
theorem Blk.lt {w : World} {b : Nat} {t : TypeId} {cs : Array Value} (h : Blk w b t cs) : b < w.heap.size := by
  by_cases hl : b < w.heap.size
  · exact hl
  · unfold Blk at h
    have : w.heap[b]? = none := by simp; omega
    rw [this] at h; cases h

set_option maxRecDepth 100000 in
theorem c61 (N k : Nat) (hi lo : Nat) (e p lp : Int) (v0 v1 v2 : Value) (w : World) (hB : Blk w N 91 #[v0, v1, v2]) (hk : p + 348 = k) (hk2 : k < 696) (hN : 9 < N)
    (hhi : w.cell? ⟨9, k * 2, none⟩ = some (.int .u64 hi)) (hlo : w.cell? ⟨9, k * 2 + 1, none⟩ = some (.int .u64 lo)) (he : -5000 ≤ e ∧ e ≤ 5000) (hl : -5000 ≤ lp ∧ lp ≤ 5000) :
    Calls Tryd.prog 61 #[.pointer (some ⟨N, 0, none⟩), .int .i64 e, .int .i64 p, .int .i64 lp] w fun r w' => r = .returned (.tuple #[]) ∧ Blk w' N 91 #[.int .u64 hi, .int .u64 lo, .int .i64 (-(e + lp + 3))] ∧ Below N w w' := by
  have c0 := hB.cell 0
  have c1 := hB.cell 1
  have c2 := hB.cell 2
  have f0 := hB.frozen 0
  have f1 := hB.frozen 1
  have f2 := hB.frozen 2
  go_enter Tryd.func61, Tryd.ntmps61
  go_wp2
  go_end0
  exact ⟨rfl, ((hB.set 0 _).set 1 _).set 2 _, (((Below.refl N w).setCell (p := ⟨N, 0, none⟩) (Nat.le_refl _) _).setCell (p := ⟨N, 1, none⟩) (Nat.le_refl _) _).setCell (p := ⟨N, 2, none⟩) (Nat.le_refl _) _⟩

theorem and63 : ∀ s : Fin 64, bits BinOp.and IntKind.i64 (s.val : Int) 63 = (s.val : Int) := by decide +kernel
/-- uscale in plain numbers: the product's high and middle word, the lesser product's high word, the shift. -/
def uscF (hi mid mid2 s : Nat) : Nat :=
  if hi / 2 ^ s * 2 ^ s = hi then
    if mid < mid2 then (hi - 1) / 2 ^ s ||| (if 1 < mid + 18446744073709551616 - mid2 then 1 else 0)
    else hi / 2 ^ s ||| (if 1 < mid - mid2 then 1 else 0)
  else hi / 2 ^ s ||| 1
def usc (x H L s : Nat) : Nat := uscF (x * H / 18446744073709551616) (x * H % 18446744073709551616) (x * L / 18446744073709551616) s
theorem below_drew (w : World) (n : Nat) : Below w.heap.size w (w.drewN n) := below_drewN (Below.refl _ _) n
set_option maxRecDepth 100000 in
set_option maxHeartbeats 1000000 in
theorem c62 (N x H L s : Nat) (w : World) (hB : Blk w N 91 #[.int .u64 H, .int .u64 L, .int .i64 s]) (hs : s < 64) (hx : x < 18446744073709551616) (hH : H < 18446744073709551616) (hL : L < 18446744073709551616) (h1 : 18446744073709551616 ≤ x * H) :
    Calls Tryd.prog 62 #[.int .u64 x, .pointer (some ⟨N, 0, none⟩)] w fun r w' => r = .returned (.int .u64 (usc x H L s : Nat)) ∧ Below w.heap.size w w' := by
  have c0 : w.cell? ⟨N, 0, none⟩ = some (.int .u64 H) := hB.cell 0
  have c1 : w.cell? ⟨N, 1, none⟩ = some (.int .u64 L) := hB.cell 1
  have c2 : w.cell? ⟨N, 2, none⟩ = some (.int .i64 s) := hB.cell 2
  have h63 : bits BinOp.and IntKind.i64 (s : Int) 63 = s := and63 ⟨s, hs⟩
  have k1 := c71 x H w hx hH
  have k2 := c71 x L w hx hL
  have hhi : x * H / 18446744073709551616 < 18446744073709551616 := Nat.div_lt_of_lt_mul (Nat.mul_lt_mul'' hx hH)
  have hhi2 : x * L / 18446744073709551616 < 18446744073709551616 := Nat.div_lt_of_lt_mul (Nat.mul_lt_mul'' hx hL)
  have hhi0 : 1 ≤ x * H / 18446744073709551616 := by omega
  have hmid : x * H % 18446744073709551616 < 18446744073709551616 := Nat.mod_lt _ (by decide)
  unfold usc
  generalize x * H / 18446744073709551616 = hi at *
  generalize x * L / 18446744073709551616 = mid2 at *
  generalize x * H % 18446744073709551616 = mid at *
  generalize x * L % 18446744073709551616 = lo2 at *
  obtain ⟨d, hd⟩ : ∃ d : Nat, hi / 2 ^ s = d := ⟨_, rfl⟩
  have hdi : (hi : Int) / 2 ^ s = d := by rw [← hd]; simp
  have hdr : d * 2 ^ s ≤ hi := by rw [← hd]; exact Nat.div_mul_le_self _ _
  have hdle : d ≤ hi := by rw [← hd]; exact Nat.div_le_self _ _
  obtain ⟨r, hr⟩ : ∃ r : Nat, d * 2 ^ s = r := ⟨_, rfl⟩
  have hri : IntKind.u64.wrap ((d : Int) * 2 ^ s) = r := by
    rw [show (d : Int) * 2 ^ s = ((d * 2 ^ s : Nat) : Int) by simp, hr, IntKind.wrap_u64]; omega
  have hor : bits BinOp.or IntKind.u64 (d : Int) 1 = ((d ||| 1 : Nat) : Int) := bits_or_u64_nat d 1 (by omega) (by decide)
  by_cases hc : r = hi
  · by_cases hm : mid < mid2
    · obtain ⟨d', hd'⟩ : ∃ d' : Nat, (hi - 1) / 2 ^ s = d' := ⟨_, rfl⟩
      have hdi' : ((hi : Int) - 1) / 2 ^ s = d' := by rw [← hd', show (hi : Int) - 1 = ((hi - 1 : Nat) : Int) by omega]; simp
      have hdle' : d' ≤ hi - 1 := by rw [← hd']; exact Nat.div_le_self _ _
      have hf : uscF hi mid mid2 s = d' ||| (if 1 < mid + 18446744073709551616 - mid2 then 1 else 0) := by
        unfold uscF; rw [hd, hr, if_pos hc, if_pos hm, hd']
      have HF := hide hf
      have hmi : (mid : Int) < mid2 := by omega
      have hw : IntKind.u64.wrap ((mid : Int) - mid2) = ((mid + 18446744073709551616 - mid2 : Nat) : Int) := by rw [IntKind.wrap_u64]; omega
      generalize mid + 18446744073709551616 - mid2 = y at *
      generalize uscF hi mid mid2 s = res at *
      clear hf hd hd' hr hB
      go_enter Tryd.func62, Tryd.ntmps62
      go_wp2_with fail
      refine k1.mono ?_
      rintro e w1 ⟨rfl, rfl⟩
      go_wp2_with fail
      refine k2.mono ?_
      rintro e w2 ⟨rfl, rfl⟩
      go_wp2_with fail
      refine (c49 _ _).mono ?_
      rintro e w2 ⟨rfl, rfl⟩
      go_wp2_with fail
      go_quiet (first | (go_at_call 49; refine Calls.quiet_of_same (c49 _ _)))
      go_wp2
      · go_ret
        exact ⟨ret_int (by rw [unhide HF, if_pos (by omega)]; exact bits_or_u64_nat d' 1 (by omega) (by decide)), below_drew _ _⟩
      · go_ret
        exact ⟨ret_int (by rw [unhide HF, if_neg (by omega)]; exact bits_or_u64_nat d' 0 (by omega) (by decide)), below_drew _ _⟩
    · have hf : uscF hi mid mid2 s = d ||| (if 1 < mid - mid2 then 1 else 0) := by
        unfold uscF; rw [hd, hr, if_pos hc, if_neg hm]
      have HF := hide hf
      have hmi : ¬ (mid : Int) < mid2 := by omega
      have hw : (mid : Int) - mid2 = ((mid - mid2 : Nat) : Int) := by omega
      generalize mid - mid2 = y at *
      generalize uscF hi mid mid2 s = res at *
      clear hf hd hr hB
      go_enter Tryd.func62, Tryd.ntmps62
      go_wp2_with fail
      refine k1.mono ?_
      rintro e w1 ⟨rfl, rfl⟩
      go_wp2_with fail
      refine k2.mono ?_
      rintro e w2 ⟨rfl, rfl⟩
      go_wp2_with fail
      refine (c49 _ _).mono ?_
      rintro e w2 ⟨rfl, rfl⟩
      go_wp2_with fail
      go_quiet (first | (go_at_call 49; refine Calls.quiet_of_same (c49 _ _)))
      go_wp2
      · go_ret
        exact ⟨ret_int (by rw [unhide HF, if_pos (by omega)]), below_drew _ _⟩
      · go_ret
        exact ⟨ret_int (by rw [unhide HF, if_neg (by omega)]; exact bits_or_u64_nat d 0 (by omega) (by decide)), below_drew _ _⟩
  · have hf : uscF hi mid mid2 s = d ||| 1 := by
      unfold uscF; rw [hd, hr, if_neg hc]
    have hne : ¬ (r : Int) = hi := by omega
    generalize uscF hi mid mid2 s = res at *
    subst hf
    clear hd hr hB
    go_enter Tryd.func62, Tryd.ntmps62
    go_wp2_with fail
    refine k1.mono ?_
    rintro e w1 ⟨rfl, rfl⟩
    go_wp2_with fail
    go_ret
    exact ⟨rfl, Below.refl _ _⟩

/-- The table's two words at row k. -/
def pHi (k : Nat) : Nat := (Pinned.pow10Rows.getD k (0, 0)).1
def pLo (k : Nat) : Nat := (Pinned.pow10Rows.getD k (0, 0)).2
/-- The variable pow10Tab as its text lays it. -/
def PowTab (w : World) : Prop := ∀ k, k < 696 → w.cell? ⟨9, k * 2, none⟩ = some (.int .u64 (pHi k)) ∧ w.cell? ⟨9, k * 2 + 1, none⟩ = some (.int .u64 (pLo k))
theorem tab_all : ∀ k : Fin 696, 9223372036854775808 ≤ pHi k.val ∧ pHi k.val < 18446744073709551616 ∧ pLo k.val < 18446744073709551616 := by decide +kernel
theorem tab_top : ∀ k : Fin 696, pHi k.val ≤ 18446744073709551616 - 1125899906842624 := by decide +kernel
end Go.Proofs.Qxb6600776aDoor
