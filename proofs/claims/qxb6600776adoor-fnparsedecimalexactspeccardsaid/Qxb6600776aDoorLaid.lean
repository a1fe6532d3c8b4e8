import Derived.Test.Qxb6600776aDoorRows
import Derived.Test.Qxb6600776aDoorPd
import Derived.LaidMore
import Derived.Lib.LaidTab
import Derived.Lib.LaidU8T
import Derived.OpenShut
import Derived.ChangeArms
set_option linter.unusedSimpArgs false
set_option linter.unusedVariables false
namespace Go.Proofs.Qxb6600776aDoor
open Go.RowKit

/-! What a reading tells of the cells. -/
section
variable {H : Type} {enc : TypeId × Value → H} {P : Program} {w : World} {base : Nat} {sp : Nat → Bool} {held : Bool} {fuel : Nat} {t : TypeId} {cs : List Value} {p : List MemPlace}
theorem inv_bool {b : Bool} (ht : P.underlying t = some .bool) (h : DataW.trod enc P w base sp held fuel t cs = some (.lit (.bool b), p)) : cs = [.bool b] := by
  cases fuel with
  | zero => simp [DataW.trod] at h
  | succ n =>
    unfold DataW.trod at h
    rw [ht] at h
    split at h <;> simp_all
theorem inv_int {k : IntKind} {n : Int} (ht : P.underlying t = some (.int k)) (h : DataW.trod enc P w base sp held fuel t cs = some (.lit (.int k n), p)) : cs = [.int k n] := by
  cases fuel with
  | zero => simp [DataW.trod] at h
  | succ m =>
    unfold DataW.trod at h
    rw [ht] at h
    split at h <;> simp_all
theorem inv_float {k : FloatKind} {n : Nat} (ht : P.underlying t = some (.float k)) (h : DataW.trod enc P w base sp held fuel t cs = some (.lit (.float k n), p)) : cs = [.float k n] := by
  cases fuel with
  | zero => simp [DataW.trod] at h
  | succ m =>
    unfold DataW.trod at h
    rw [ht] at h
    split at h <;> simp_all
theorem inv_string {l : List UInt8} (ht : P.underlying t = some .string) (h : DataW.trod enc P w base sp held fuel t cs = some (.lit (.string l), p)) : cs = [.string ⟨l.toArray⟩] := by
  cases fuel with
  | zero => simp [DataW.trod] at h
  | succ m =>
    unfold DataW.trod at h
    rw [ht] at h
    split at h
    all_goals simp_all
    all_goals (try (obtain ⟨-, rfl, -⟩ := h; rfl))

theorem map_get {xs : List (DataW H × List MemPlace)} {ds : List (DataW H)} {i : Nat} {d : DataW H} (h : xs.map (·.1) = ds) (hd : ds[i]? = some d) : ∃ q, xs[i]? = some (d, q) := by
  subst h
  simp only [List.getElem?_map, Option.map_eq_some_iff] at hd
  obtain ⟨x, hx, rfl⟩ := hd
  exact ⟨x.2, hx⟩
theorem inv_array {n : Nat} {e : TypeId} {ds : List (DataW H)} (ht : P.underlying t = some (.array n e)) (h : DataW.trod enc P w base sp held fuel t cs = some (.agg ds, p)) (i : Nat) (d : DataW H) (hi : ds[i]? = some d) :
    ∃ m q, DataW.trod enc P w base sp held m e ((cs.drop (i * P.cellsOf e)).take (P.cellsOf e)) = some (d, q) := by
  obtain ⟨xs, m, -, hx, -, hl, hr⟩ := DataW.trod_array ht h
  injection hx with hx1 _
  injection hx1 with hx1
  obtain ⟨q, hq⟩ := map_get hx1.symm hi
  have hn : i < n := by
    rw [← hl]
    exact (List.getElem?_eq_some_iff.1 hq).1
  exact ⟨m, q, (hr i hn).trans hq⟩
theorem inv_struct {fs : Array Field} {ds : List (DataW H)} (ht : P.underlying t = some (.struct fs)) (h : DataW.trod enc P w base sp held fuel t cs = some (.agg ds, p)) (i : Nat) (d : DataW H) (f : Field) (hi : ds[i]? = some d) (hf : fs[i]? = some f) :
    ∃ m q, DataW.trod enc P w base sp held m f.type ((cs.drop f.offset).take (P.cellsOf f.type)) = some (d, q) := by
  obtain ⟨xs, m, -, hx, -, hl, hr⟩ := DataW.trod_struct ht h
  injection hx with hx1 _
  injection hx1 with hx1
  obtain ⟨q, hq⟩ := map_get hx1.symm hi
  exact ⟨m, q, (hr i f hf).trans hq⟩
theorem inv_field {fs : Array Field} {ds : List (DataW H)} (ht : P.underlying t = some (.struct fs)) (h : DataW.trod enc P w base sp held fuel t cs = some (.agg ds, p)) (i : Nat) (d : DataW H) (ft : TypeId) (off : Nat) (hi : ds[i]? = some d)
    (hf : (fs[i]?).map (fun f => (f.type, f.offset)) = some (ft, off)) (hc : P.cellsOf ft = 1) : ∃ m q, DataW.trod enc P w base sp held m ft ((cs.drop off).take 1) = some (d, q) := by
  obtain ⟨f, hfg, he⟩ := Option.map_eq_some_iff.1 hf
  injection he with h1 h2
  subst h1
  subst h2
  obtain ⟨m, q, hr⟩ := inv_struct ht h i d f hi hfg
  rw [hc] at hr
  exact ⟨m, q, hr⟩
theorem inv_slice {e : TypeId} {ds : List (DataW H)} {rs : List (DataW H)} (ht : P.underlying t = some (.slice e)) (h : DataW.trod enc P w base sp held fuel t cs = some (.slice ds rs, p)) :
    ∃ a c, cs = [.slice (some a) ds.length c] ∧ ∀ (i : Nat) (d : DataW H), ds[i]? = some d → ∃ m q vs, w.cells? base (a.add (i * P.cellsOf e)) (P.cellsOf e) = some vs ∧ DataW.trod enc P w base sp held m e vs = some (d, q) := by
  rcases DataW.trod_slice ht h with ⟨_, hx⟩ | ⟨a, len, cap, elems, rest, n, -, hcs, hx, -, -, -, hl, hr, -, -⟩
  · injection hx with hx _
    cases hx
  · injection hx with hx1 _
    injection hx1 with hx1 _
    have hlen : ds.length = len := by rw [hx1, List.length_map, hl]
    refine ⟨a, cap, by rw [hlen]; exact hcs, fun i d hi => ?_⟩
    obtain ⟨q, hq⟩ := map_get hx1.symm hi
    have hn : i < len := by rw [← hl]; exact (List.getElem?_eq_some_iff.1 hq).1
    have := (hr i hn).trans hq
    obtain ⟨vs, h1, h2⟩ := Option.bind_eq_some_iff.1 this
    exact ⟨n, q, vs, h1, h2⟩
theorem inv_iface {m : Array (String × TypeId)} {s : String} {d : DataW H} (ht : P.underlying t = some (.interface m)) (h : DataW.trod enc P w base sp held fuel t cs = some (.iface s d, p)) : ∃ te pe, cs = [.iface te pe] := by
  cases fuel with
  | zero => simp [DataW.trod] at h
  | succ n =>
    unfold DataW.trod at h
    rw [ht] at h
    split at h <;> simp_all
theorem add_zero_eq (a : Addr) : a.add 0 = a := by simp [Addr.add]
theorem cells1 {a : Addr} {vs : List Value} (h : w.cells? base a 1 = some vs) : ∃ v, vs = [v] ∧ w.cell? a = some v := by
  unfold World.cells? at h
  split at h
  · simp [List.range_succ, Option.bind_eq_some_iff, add_zero_eq] at h
    obtain ⟨v, hv, hx⟩ := h
    exact ⟨v, hx.symm, hv⟩
  · cases h
theorem cells2 {a : Addr} {vs : List Value} (h : w.cells? base a 2 = some vs) : ∃ u v, vs = [u, v] ∧ w.cell? a = some u ∧ w.cell? (a.add 1) = some v := by
  unfold World.cells? at h
  split at h
  · simp [List.range_succ, Option.bind_eq_some_iff, add_zero_eq] at h
    grind
  · cases h
theorem spot_none {a : Addr} {v : Value} (h : w.cell? a = some v) : a.spot = none := by
  unfold World.cell? at h
  split at h
  · split at h
    · cases h
    · rename_i hs
      simpa using hs
  · cases h
theorem add_eq {a : Addr} (h : a.spot = none) (n : Nat) : a.add n = ⟨a.block, a.off + n, none⟩ := by
  unfold Addr.add
  split
  · rename_i hn; subst hn; cases a; simp_all
  · rfl
end
end Go.Proofs.Qxb6600776aDoor
