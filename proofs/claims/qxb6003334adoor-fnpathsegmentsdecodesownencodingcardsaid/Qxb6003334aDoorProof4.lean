import Derived.Test.Qxb6003334aDoorTie
import Derived.Test.Qxb6003334aDoorCards
import Derived.Test.Qxb6003334aDoorLaw4
import Derived.ProofKit
import Derived.OpenShut
import Derived.LaidMore
import Derived.Lay
import Derived.SevenTiedAt
import Derived.Stop.Joined
import Derived.SizedLaws
import Derived.Shelf.Vars
import Derived.Lib.LaidU8T
import Derived.PinnedBridge
namespace Go.Proofs.Qxb6003334aDoor
open Go.ChangeShapes Go.WideShapes Go.ChangeAt Go.RowKit Go.Shelf Go.Proofs.Qxb6003334aDoor.Pl
open Go.ChangeMaps (open_string shut_string)

/-- The plain wrap with a condition beside the specification's own, the world's shape kept. -/
theorem returns_shaped {H : Type} {enc : TypeId × Value → H} {a : Assume} {C : Checked} {os : Os} {f : FuncId} {fn : Func} {s : ChangeSpec} {conds : List PathCond} {apart fresh handsOn again : Bool} {X : World → Array Value → Prop}
    (hX : ∀ (w w' : World) (args : Array Value), w.heap = w'.heap → X w args → X w' args)
    (own : ownKnob C.prog.godebug = none) (started : os.Started) (noInit : C.prog.inits.idxOf? f = none) (hfn : C.prog.funcs[f]? = some fn)
    (witness : ∃ (w : World) (tape : Tape) (i : Input), w.os = os ∧ (w.forCall tape i).Shaped C.prog ∧ i.vars = [] ∧ Input.okWide C.prog (w.forCall tape i) .any w.heap.size f i ∧
      ((s.pre enc C.prog fn conds apart (w.forCall tape i).memory i.args ∧ X (w.forCall tape i).memory i.args) ∧ sizedMet enc C.prog fn (OpenSpec.ofChange s) apart (w.forCall tape i).memory i.args) ∧ a.holds C.prog (lone (Frame.enter C.prog f i.args .normal) [] (w.forCall tape i)))
    (contract : ∀ (W : World) (base : Nat) (args : Array Value) (ds gs : List (DataW H)) (before : List MemPlace),
      (∀ (j : Nat) t v, fn.params[j]? = some t → args[j]? = some v → Value.okWide C.prog W .any base t v) →
      DataW.Whole enc C.prog fn.params.toList s.vars apart W args.toList ds gs before → X W args → W.ShapedOpen C.prog →
      Calls C.prog f args W fun e W' => ∃ v, e = .returned v ∧ s.post enc C.prog fn apart fresh handsOn again W args v W') :
    ReturnsInHanded a C os f .any (fun w args => (s.pre enc C.prog fn conds apart w args ∧ X w args) ∧ sizedMet enc C.prog fn (OpenSpec.ofChange s) apart w args) (s.post enc C.prog fn apart fresh handsOn again) := by
  refine returnsInHanded_of_calls own started noInit witness ?_
  intro w tape i _ hsh _ hok hpre _
  obtain ⟨_, _, _, fn', hfn', _, _, _, _, hval⟩ := hok
  have e : fn' = fn := Option.some.inj (hfn'.symm.trans hfn)
  subst e
  obtain ⟨⟨⟨ds, gs, before, hw, _⟩, hx⟩, _⟩ := hpre
  have hw' := DataW.Whole.of_heap (w' := w.forCall tape i) (by rfl) hw
  refine (contract (w.forCall tape i) w.heap.size i.args ds gs before hval hw' (hX _ _ _ (by rfl) hx) hsh).mono fun e W' ⟨v, he, hp⟩ => ?_
  subst he
  exact ChangeSpec.post_blind hp

theorem own : ownKnob Tryd.prog.godebug = none := by kernel_rfl
/-- net/url's table as a row of integers. -/
def tabInts : List Int := match (Rows.laid_net_url_table : DataW Unit) with
  | .agg l => l.map fun | .lit (.int _ n) => n | _ => 0
  | _ => []
theorem tab_eq : (Rows.laid_net_url_table : DataW Unit) = Lib.tabData .u8 tabInts := by kernel_rfl
theorem tab_len : tabInts.length = 256 := by kernel_rfl
theorem tab_hex : ∀ k : Fin 256, (bits BinOp.and IntKind.u8 (tabInts.getD k.val 0) 128 != 0) = isHex (UInt8.ofNat k.val) := by decide +kernel
theorem cells62 : Tryd.prog.cellsOf 62 = 256 := by kernel_rfl
theorem cells47 : Tryd.prog.cellsOf 47 = 1 := by kernel_rfl
theorem tab_of {W : World} {l : List (String × DataW Unit)} {n : String} (hn : Tryd.prog.globalNamed n = some 0) (h : laidMet Tryd.prog l W) (hm : (n, Rows.laid_net_url_table) ∈ l) : HexTab W := by
  have h1 := Lib.laidMet.reads h hm
  rw [tab_eq] at h1
  obtain ⟨g, t, cs, fuel, p, hg, hty, hvar, hd⟩ := h1
  obtain rfl := Option.some.inj (hn.symm.trans hg)
  obtain rfl := Option.some.inj ((show (Tryd.prog.globals[0]?).map (·.type) = some 62 by kernel_rfl).symm.trans hty)
  have hcs := Lib.cells_of_tab Tryd.underlying62 Tryd.underlying47 cells47 cells62 hd
  intro c
  have hc : c.toNat < 256 := UInt8.toNat_lt c
  refine ⟨tabInts.getD c.toNat 0, ?_, ?_⟩
  · rw [World.var?_cell hg hvar c.toNat, ← Array.getElem?_toList, hcs]
    have hl : c.toNat < tabInts.length := by rw [tab_len]; exact hc
    simp [List.getD, List.getElem?_eq_getElem hl]
  · have := tab_hex ⟨c.toNat, hc⟩
    simpa using this
theorem max_of {W : World} (h : W.ShapedOpen Tryd.prog) : ∃ m, W.cell? ⟨1, 0, none⟩ = some (.int .i64 m) :=
  cell_of_shapedOpen_int (t := 3) (zero := #[.int .i64 0]) h (of_decide_eq_true (by kernel_rfl)) (by kernel_rfl) rfl (by kernel_rfl) (by kernel_rfl) Tryd.underlying3

set_option maxRecDepth 100000 in
set_option maxHeartbeats 800000 in
theorem lifted4 (os : Os) (started : os.Started) (H : Type) (enc : TypeId × Value → H) :
    ReturnsInHanded {} Tryd.checked os 4 .any (fun w args => (Rows.fnPathSegmentsAcceptsExactlyWellFormedPathsSpec.pre enc Tryd.prog Tryd.f4 [] false w args ∧ laidMetH Tryd.prog Rows.fnPathSegmentsAcceptsExactlyWellFormedPathsRow.laid w) ∧ sizedMet enc Tryd.prog Tryd.f4 (OpenSpec.ofChange Rows.fnPathSegmentsAcceptsExactlyWellFormedPathsSpec) false w args)
      (Rows.fnPathSegmentsAcceptsExactlyWellFormedPathsSpec.post enc Tryd.prog Tryd.f4 false true false false) := by
  refine returns_shaped (C := Tryd.checked) (X := fun w _ => laidMetH Tryd.prog Rows.fnPathSegmentsAcceptsExactlyWellFormedPathsRow.laid w) (fun _ _ _ hh h => h.of_heap hh) own started (by kernel_rfl) Tryd.func4
    (ChangeSpec.witness_shaped (enc := enc) (C := Tryd.checked) (os := os) (X := fun w _ => laidMetH Tryd.prog Rows.fnPathSegmentsAcceptsExactlyWellFormedPathsRow.laid w) false (World.laidAll Tryd.prog os Rows.fnPathSegmentsAcceptsExactlyWellFormedPathsRow.laid) #[.string ⟨#[]⟩] 8 (World.laidAll_os _ _ _)
      (World.shaped_of_ZipB (by kernel_rfl) (by kernel_rfl)) (by kernel_rfl) (by kernel_rfl) (by kernel_rfl)
      (by rw [MakeChecks.laidMetH_plain _ _ _ (by kernel_rfl)]; exact laidMet_laidAll _ (by kernel_rfl) (by kernel_rfl))) ?_
  intro W base args ds gs before hval0 hW hL hsh
  have hval : ∀ (j : Nat) t v, Tryd.f4.params[j]? = some t → args[j]? = some v → Value.okWide Tryd.prog W .any base t v := hval0
  have hW' := hW
  obtain ⟨p, q, hA0, hV, rfl, _, _⟩ := hW
  have hA : DataW.TrodAll enc Tryd.prog W 0 (fun _ => true) true Tryd.f4.params.toList args.toList ds p := hA0
  rw [Tryd.params4] at hA hval
  obtain ⟨v0, d0, rfl, rfl, h0⟩ := trodAll_one hA
  obtain ⟨rfl, rfl⟩ := trodVars_none hV
  obtain ⟨s, rfl, rfl, rfl, hs⟩ := open_string Tryd.underlying9 (hval 0 9 v0 rfl rfl) h0
  simp only [List.append_nil] at hW'
  rw [MakeChecks.laidMetH_plain _ _ _ (by kernel_rfl)] at hL
  have hT : HexTab W := tab_of (by kernel_rfl) hL (.tail _ (.head _))
  obtain ⟨mx, hM⟩ := max_of hsh
  have fin : ∀ (e : Ending) (W' : World), (e = .returned (.bool true) ∧ Below W.heap.size W W') → ∃ v, e = .returned v ∧ Rows.fnPathSegmentsAcceptsExactlyWellFormedPathsSpec.post enc Tryd.prog Tryd.f4 false true false false W #[.string s] v W' := by
    rintro e W' ⟨rfl, hb⟩
    exact ⟨_, rfl, _, _, _, [], [], [], hW', trodAll_mk1 (shut_bool Tryd.underlying4 _), trodAll_mk1 (shut_string Tryd.underlying9 hs), rfl, hb.frame _, fun h => by cases h⟩
  by_cases hin : s.size ≤ 1048576 ∧ 0 < s.size
  · exact (law4_in s W hin.1 hin.2 hT mx hM).mono fin
  · exact (law4_out s W hs (by omega)).mono fun e W' ⟨he, hw⟩ => fin e W' ⟨he, by rw [hw]; exact Below.refl _ _⟩

theorem holds4 : Rows.FnPathSegmentsAcceptsExactlyWellFormedPathsSaid :=
  OpenClaim.holds_of_wide 4 Tryd.f4 rfl rfl rfl rfl rfl rfl rfl ⟨rfl, rfl, rfl, rfl, rfl⟩ rfl rfl rfl rfl rfl (by kernel_rfl) Tryd.func4 (by kernel_rfl)
    (of_decide_eq_true (by kernel_rfl)) (by unfold Func.isWrapper; first | (rw [if_pos (by decide +kernel)]; kernel_rfl) | (rw [if_neg (by decide +kernel)]; exact ⟨rfl, rfl⟩))
    (fun os started H enc _ => lifted4 os started H enc)
theorem card4_holds : Rows.FnPathSegmentsAcceptsExactlyWellFormedPathsCardSaid :=
  Claim7.holds_tied_plain_at .later [] [.data, .data, .pinned] true Rows.fnPathSegmentsAcceptsExactlyWellFormedPathsCard.stood.harness false holds4 (fun _ h => by cases h) (by kernel_rfl) (fun _ h => by cases h) fnPathSegmentsAcceptsExactlyWellFormedPaths_row_tie rfl ⟨rfl, rfl⟩ (by kernel_rfl) rfl
    (fun f fn hf hfn => by
      obtain rfl : f = 4 := Option.some.inj ((show Tryd.prog.funcNamed Tryd.f4.name = some 4 by kernel_rfl).symm.trans hf) |>.symm
      obtain rfl : fn = Tryd.f4 := (Option.some.inj (Tryd.func4.symm.trans hfn)).symm
      exact ⟨by kernel_rfl, fun j t ht => by
        rw [Tryd.params4] at ht
        have hm : t ∈ [9] := by simpa using Array.mem_of_getElem? ht
        have hall : ([9].all fun u => !Tryd.prog.wantsStandIn u) = true := by kernel_rfl
        exact (show Tryd.prog.wantsStandIn t = false by simpa using List.all_eq_true.1 hall t hm)⟩)
    (by kernel_rfl)
end Go.Proofs.Qxb6003334aDoor
