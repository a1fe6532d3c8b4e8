import Derived.Test.Qxb6600776aDoorLaid
import Derived.Test.Qxb6600776aDoorAtof
set_option linter.unusedSimpArgs false
set_option linter.unusedVariables false
namespace Go.Proofs.Qxb6600776aDoor
open Go.RowKit
theorem cells3 : Tryd.prog.cellsOf 3 = 1 := by kernel_rfl
theorem cells9 : Tryd.prog.cellsOf 9 = 1 := by kernel_rfl
theorem cells23 : Tryd.prog.cellsOf 23 = 1 := by kernel_rfl
theorem cells28 : Tryd.prog.cellsOf 28 = 1 := by kernel_rfl
theorem cells46 : Tryd.prog.cellsOf 46 = 1 := by kernel_rfl
theorem cells107 : Tryd.prog.cellsOf 107 = 2 := by kernel_rfl
theorem cells118 : Tryd.prog.cellsOf 118 = 2 := by kernel_rfl

theorem take1 {cs : List Value} {k : Nat} {v : Value} (h : (cs.drop k).take 1 = [v]) : cs[k]? = some v := by
  have := congrArg (·[0]?) h
  simpa [List.getElem?_take, List.getElem?_drop] using this

/-- A global's reading: its cells. -/
theorem global_reads {W : World} {l : List (String × DataW Unit)} {n : String} {d : DataW Unit} {g : Nat} {t : TypeId} (hn : Tryd.prog.globalNamed n = some g) (ht : (Tryd.prog.globals[g]?).map (·.type) = some t)
    (h : laidMet Tryd.prog l W) (hm : (n, d) ∈ l) :
    ∃ (cs : List Value) (fuel : Nat) (p : List MemPlace), (∀ i, W.cell? ⟨g, i, none⟩ = cs[i]?) ∧ DataW.trod (fun _ => ()) Tryd.prog W 0 (fun _ => true) false fuel t cs = some (d, p) := by
  obtain ⟨g', t', cs, fuel, p, hg, hty, hvar, hd⟩ := Lib.laidMet.reads h hm
  obtain rfl := Option.some.inj (hn.symm.trans hg)
  obtain rfl := Option.some.inj (ht.symm.trans hty)
  exact ⟨cs.toList, fuel, p, fun i => by rw [World.var?_cell hg hvar i, Array.getElem?_toList], hd⟩

section
variable {W : World} {l : List (String × DataW Unit)}
theorem opt_of {n : String} (hn : Tryd.prog.globalNamed n = some 4) (h : laidMet Tryd.prog l W) (hm : (n, Rows.laid_internal_strconv_optimize) ∈ l) : W.cell? ⟨4, 0, none⟩ = some (.bool true) := by
  obtain ⟨cs, fuel, p, hc, hd⟩ := global_reads (t := 4) hn (by kernel_rfl) h hm
  rw [hc, inv_bool Tryd.underlying4 hd]
  rfl
theorem err_of {n : String} (hn : Tryd.prog.globalNamed n = some 2) (h : laidMet Tryd.prog l W) (hm : (n, Rows.laid_strconv_ErrRange) ∈ l) : ∃ te pe, W.cell? ⟨2, 0, none⟩ = some (.iface te pe) := by
  obtain ⟨cs, fuel, p, hc, hd⟩ := global_reads (t := 34) hn (by kernel_rfl) h hm
  obtain ⟨te, pe, rfl⟩ := inv_iface Tryd.underlying34 hd
  exact ⟨te, pe, by rw [hc]; rfl⟩
theorem fi_of {n : String} (hn : Tryd.prog.globalNamed n = some 5) (h : laidMet Tryd.prog l W) (hm : (n, Rows.laid_internal_strconv_float64info) ∈ l) : FInfo W.heap.size W := by
  obtain ⟨cs, fuel, p, hc, hd⟩ := global_reads (t := 66) hn (by kernel_rfl) h hm
  obtain ⟨m0, q0, h0⟩ := inv_field Tryd.underlying66 hd 0 _ 46 0 rfl rfl cells46
  obtain ⟨m1, q1, h1⟩ := inv_field Tryd.underlying66 hd 1 _ 46 1 rfl rfl cells46
  obtain ⟨m2, q2, h2⟩ := inv_field Tryd.underlying66 hd 2 _ 3 2 rfl rfl cells3
  have e0 := inv_int Tryd.underlying46 h0
  have e1 := inv_int Tryd.underlying46 h1
  have e2 := inv_int Tryd.underlying3 h2
  have c0 : W.cell? ⟨5, 0, none⟩ = some (.int .u64 52) := by rw [hc]; exact take1 e0
  exact ⟨cell_lt c0, c0, by rw [hc]; exact take1 e1, by rw [hc]; exact take1 e2⟩
theorem pow_of {n : String} (hn : Tryd.prog.globalNamed n = some 9) (h : laidMet Tryd.prog l W) (hm : (n, Rows.laid_internal_strconv_pow10Tab) ∈ l) : PowTab W := by
  obtain ⟨cs, fuel, p, hc, hd⟩ := global_reads (t := 108) hn (by kernel_rfl) h hm
  intro k hk
  have hlen : Pinned.pow10Rows.length = 696 := by kernel_rfl
  have hkl : k < Pinned.pow10Rows.length := by omega
  have hg : (Pinned.pow10Rows.map fun x => (.agg [.lit (.int .u64 x.1), .lit (.int .u64 x.2)] : DataW Unit))[k]? = some (.agg [.lit (.int .u64 (pHi k)), .lit (.int .u64 (pLo k))]) := by
    simp [pHi, pLo, List.getD, List.getElem?_eq_getElem hkl]
  have hd' : DataW.trod (fun _ => ()) Tryd.prog W 0 (fun _ => true) false fuel 108 cs = some (.agg (Pinned.pow10Rows.map fun x => (.agg [.lit (.int .u64 x.1), .lit (.int .u64 x.2)] : DataW Unit)), p) := hd
  obtain ⟨m, q, hr⟩ := inv_array Tryd.underlying108 hd' k _ hg
  obtain ⟨m0, q0, h0⟩ := inv_field Tryd.underlying107 hr 0 _ 28 0 rfl rfl cells28
  obtain ⟨m1, q1, h1⟩ := inv_field Tryd.underlying107 hr 1 _ 28 1 rfl rfl cells28
  have e0 := take1 (inv_int Tryd.underlying28 h0)
  have e1 := take1 (inv_int Tryd.underlying28 h1)
  simp only [cells107] at e0 e1
  rw [hc, hc]
  clear hd hd' hg hr h0 h1
  simp [List.getElem?_take, List.getElem?_drop] at e0 e1
  exact ⟨e0, e1⟩
theorem p10_of {n : String} (hn : Tryd.prog.globalNamed n = some 8) (h : laidMet Tryd.prog l W) (hm : (n, Rows.laid_internal_strconv_float64pow10) ∈ l) : Pow10F W := by
  obtain ⟨cs, fuel, p, hc, hd⟩ := global_reads (t := 103) hn (by kernel_rfl) h hm
  have he : (Rows.laid_internal_strconv_float64pow10 : DataW Unit) = .slice (w10s.map fun x => .lit (.float .f64 x)) [] := by kernel_rfl
  rw [he] at hd
  obtain ⟨a, c, rfl, hr⟩ := inv_slice Tryd.underlying103 hd
  have hg : ∀ k, k < 23 → (w10s.map fun x => (.lit (.float .f64 x) : DataW Unit))[k]? = some (.lit (.float .f64 (w10 k))) := fun k hk => by
    have hkl : k < w10s.length := hk
    simp [w10, List.getD, List.getElem?_eq_getElem hkl]
  have hcell : ∀ k, k < 23 → W.cell? (a.add k) = some (.float .f64 (w10 k)) := fun k hk => by
    obtain ⟨m, q, vs, h1, h2⟩ := hr k _ (hg k hk)
    simp only [cells23, Nat.mul_one] at h1
    obtain ⟨v, rfl, hv⟩ := cells1 h1
    have := inv_float Tryd.underlying23 h2
    simp only [List.cons.injEq, and_true] at this
    rw [hv, this]
  have hs : a.spot = none := spot_none (add_zero_eq a ▸ hcell 0 (by omega))
  refine ⟨a.block, a.off, c, ?_, fun k hk => ?_⟩
  · rw [hc]
    cases a
    simp_all
    rfl
  · rw [← add_eq hs]; exact hcell k hk
theorem pt_of {n : String} (hn : Tryd.prog.globalNamed n = some 7) (h : laidMet Tryd.prog l W) (hm : (n, Rows.laid_internal_strconv_powtab) ∈ l) : PowT W.heap.size W := by
  obtain ⟨cs, fuel, p, hc, hd⟩ := global_reads (t := 101) hn (by kernel_rfl) h hm
  have he : (Rows.laid_internal_strconv_powtab : DataW Unit) = .slice ([1, 3, 6, 9, 13, 16, 19, 23, 26].map fun x : Nat => .lit (.int .i64 x)) [] := by kernel_rfl
  rw [he] at hd
  obtain ⟨a, c, rfl, hr⟩ := inv_slice Tryd.underlying101 hd
  have hg : ∀ k, k < 9 → ([1, 3, 6, 9, 13, 16, 19, 23, 26].map fun x : Nat => (.lit (.int .i64 x) : DataW Unit))[k]? = some (.lit (.int .i64 (ptab k))) := fun k hk => by
    rw [List.getElem?_map, List.getElem?_eq_getElem (by simpa using hk)]
    simp [ptab, List.getD, List.getElem?_eq_getElem (show k < [1, 3, 6, 9, 13, 16, 19, 23, 26].length by simpa using hk)]
  have hcell : ∀ k, k < 9 → W.cell? (a.add k) = some (.int .i64 (ptab k)) := fun k hk => by
    obtain ⟨m, q, vs, h1, h2⟩ := hr k _ (hg k hk)
    simp only [cells3, Nat.mul_one] at h1
    obtain ⟨v, rfl, hv⟩ := cells1 h1
    have := inv_int Tryd.underlying3 h2
    simp only [List.cons.injEq, and_true] at this
    rw [hv, this]
  have hs : a.spot = none := spot_none (add_zero_eq a ▸ hcell 0 (by omega))
  have hv : W.cell? ⟨7, 0, none⟩ = some (.slice (some ⟨a.block, a.off, none⟩) 9 c) := by
    rw [hc]
    cases a
    simp_all
  refine ⟨a.block, a.off, c, cell_lt hv, ?_, hv, fun k hk => ?_⟩
  · have := hcell 0 (by omega)
    rw [add_eq hs] at this
    exact cell_lt this
  · rw [← add_eq hs]; exact hcell k hk
theorem ch_of {n : String} (hn : Tryd.prog.globalNamed n = some 10) (h : laidMet Tryd.prog l W) (hm : (n, Rows.laid_internal_strconv_leftcheats) ∈ l) : Cheats W.heap.size W := by
  obtain ⟨fs, fuel, p, hc, hd⟩ := global_reads (t := 119) hn (by kernel_rfl) h hm
  have he : (Rows.laid_internal_strconv_leftcheats : DataW Unit) = .slice (Pinned.cheatRows.map fun x => .agg [.lit (.int .i64 x.1), .lit (.string x.2)]) [] := rfl
  rw [he] at hd
  obtain ⟨a, c, rfl, hr⟩ := inv_slice Tryd.underlying119 hd
  have hlen : Pinned.cheatRows.length = 61 := by kernel_rfl
  have hg : ∀ k, k < 61 → (Pinned.cheatRows.map fun x => (.agg [.lit (.int .i64 x.1), .lit (.string x.2)] : DataW Unit))[k]? = some (.agg [.lit (.int .i64 (cd k)), .lit (.string (cs k))]) := fun k hk => by
    have hkl : k < Pinned.cheatRows.length := by omega
    simp [cd, cs, List.getD, List.getElem?_eq_getElem hkl]
  have hcell : ∀ k, k < 61 → W.cell? (a.add (k * 2)) = some (.int .i64 (cd k)) ∧ W.cell? ((a.add (k * 2)).add 1) = some (.string ⟨(cs k).toArray⟩) := fun k hk => by
    obtain ⟨m, q, vs, h1, h2⟩ := hr k _ (hg k hk)
    simp only [cells118] at h1
    obtain ⟨u, v, rfl, hu, hv⟩ := cells2 h1
    obtain ⟨m0, q0, h3⟩ := inv_field Tryd.underlying118 h2 0 _ 3 0 rfl rfl cells3
    obtain ⟨m1, q1, h4⟩ := inv_field Tryd.underlying118 h2 1 _ 9 1 rfl rfl cells9
    have e3 := inv_int Tryd.underlying3 h3
    have e4 := inv_string Tryd.underlying9 h4
    simp at e3 e4
    rw [hu, hv, e3, e4]
    exact ⟨rfl, rfl⟩
  have h0 := (hcell 0 (by omega)).1
  rw [Nat.zero_mul, add_zero_eq] at h0
  have hs : a.spot = none := spot_none h0
  have hv : W.cell? ⟨10, 0, none⟩ = some (.slice (some ⟨a.block, a.off, none⟩) 61 c) := by
    rw [hc]
    rw [List.length_map, hlen]
    cases a
    simp_all
  refine ⟨a.block, a.off, c, cell_lt hv, ?_, hv, fun k hk => ?_⟩
  · rw [← add_zero_eq a, add_eq hs] at h0
    exact cell_lt h0
  · have := hcell k hk
    rw [add_eq hs, add_eq rfl] at this
    exact this
end
end Go.Proofs.Qxb6600776aDoor
