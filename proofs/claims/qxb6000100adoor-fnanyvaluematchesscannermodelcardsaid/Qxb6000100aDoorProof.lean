import Derived.Test.Qxb6000100aDoorTie
import Derived.Test.Qxb6000100aDoorCards
import Derived.Test.Qxb6000100aDoorLaw3
import Derived.ProofKit
import Derived.OpenShut
import Derived.LaidMore
import Derived.Lay
import Derived.SevenTiedAt
import Derived.Stop.Joined
import Derived.SizedLaws
import Derived.Shelf.Vars
import Derived.Lib.LaidU8T
import Derived.PinnedBridge
namespace Go.Proofs.Qxb6000100aDoor
open Go.ChangeShapes Go.WideShapes Go.ChangeAt Go.RowKit Go.Shelf

/-- The plain wrap with a condition beside the specification's own, the world's shape kept. -/
theorem returns_shaped {H : Type} {enc : TypeId × Value → H} {a : Assume} {C : Checked} {os : Os} {f : FuncId} {fn : Func} {s : ChangeSpec} {conds : List PathCond} {apart fresh handsOn again : Bool} {X : World → Array Value → Prop}
    (hX : ∀ (w w' : World) (args : Array Value), w.heap = w'.heap → X w args → X w' args)
    (own : ownKnob C.prog.godebug = none) (started : os.Started) (noInit : C.prog.inits.idxOf? f = none) (hfn : C.prog.funcs[f]? = some fn)
    (witness : ∃ (w : World) (tape : Tape) (i : Input), w.os = os ∧ (w.forCall tape i).Shaped C.prog ∧ i.vars = [] ∧ Input.okWide C.prog (w.forCall tape i) .any w.heap.size f i ∧
      ((s.pre enc C.prog fn conds apart (w.forCall tape i).memory i.args ∧ X (w.forCall tape i).memory i.args) ∧ sizedMet enc C.prog fn (OpenSpec.ofChange s) apart (w.forCall tape i).memory i.args) ∧ a.holds C.prog (lone (Frame.enter C.prog f i.args .normal) [] (w.forCall tape i)))
    (contract : ∀ (W : World) (base : Nat) (args : Array Value) (ds gs : List (DataW H)) (before : List MemPlace),
      (∀ (j : Nat) t v, fn.params[j]? = some t → args[j]? = some v → Value.okWide C.prog W .any base t v) →
      DataW.Whole enc C.prog fn.params.toList s.vars apart W args.toList ds gs before → X W args → W.ShapedOpen C.prog →
      Calls C.prog f args W fun e W' => ∃ v, e = .returned v ∧ s.post enc C.prog fn apart fresh handsOn again W args v W') :
    ReturnsInHanded a C os f .any (fun w args => (s.pre enc C.prog fn conds apart w args ∧ X w args) ∧ sizedMet enc C.prog fn (OpenSpec.ofChange s) apart w args) (s.post enc C.prog fn apart fresh handsOn again) := by
  refine returnsInHanded_of_calls own started noInit witness ?_
  intro w tape i _ hsh _ hok hpre _
  obtain ⟨_, _, _, fn', hfn', _, _, _, _, hval⟩ := hok
  have e : fn' = fn := Option.some.inj (hfn'.symm.trans hfn)
  subst e
  obtain ⟨⟨⟨ds, gs, before, hw, _⟩, hx⟩, _⟩ := hpre
  have hw' := DataW.Whole.of_heap (w' := w.forCall tape i) (by rfl) hw
  refine (contract (w.forCall tape i) w.heap.size i.args ds gs before hval hw' (hX _ _ _ (by rfl) hx) hsh).mono fun e W' ⟨v, he, hp⟩ => ?_
  subst he
  exact ChangeSpec.post_blind hp

theorem own : ownKnob Tryd.prog.godebug = none := by kernel_rfl
theorem laidOut : laidOutB Tryd.prog = true := by kernel_rfl
theorem cells5 : Tryd.prog.cellsOf 5 = 1 := by kernel_rfl
def ren : Ren := ⟨fun n => n, fun n => if n = 119 then 50 else if n = 138 then 52 else if n = 139 then 53 else n, fun n => if n = 3 then 1 else if n = 4 then 2 else n⟩
theorem u8Types : U8Types Tryd.prog ren := ⟨Tryd.underlying5, Tryd.underlying50, Tryd.underlying52, Tryd.underlying53⟩
theorem u8Extra : U8Extra Tryd.prog ren := ⟨by kernel_rfl, by kernel_rfl, by kernel_rfl, by kernel_rfl, by kernel_rfl, by kernel_rfl, by kernel_rfl⟩
theorem accept_eq : (Rows.laid_unicode_utf8_acceptRanges : DataW Unit) = Lib.acceptData := by kernel_rfl
theorem tabs_of {W : World} (h : laidMetH Tryd.prog Rows.fnAnyValueMatchesScannerModelRow.laid W) : Lib.Utf8Tabs 1 2 W := by
  rw [MakeChecks.laidMetH_plain _ _ _ (by kernel_rfl)] at h
  have h1 := Lib.laidMet.reads h (n := _) (d := Rows.laid_unicode_utf8_acceptRanges) (.head _)
  have h2 := Lib.laidMet.reads h (n := _) (d := Rows.laid_unicode_utf8_first) (.tail _ (.head _))
  rw [accept_eq] at h1
  rw [show Rows.laid_unicode_utf8_first = Lib.firstData from Pinned.utf8First_eq] at h2
  exact utf8Tabs_of_readsT u8Types u8Extra h2 h1
theorem max_of {W : World} (h : W.ShapedOpen Tryd.prog) : ∃ m, W.cell? ⟨0, 0, none⟩ = some (.int .i64 m) :=
  cell_of_shapedOpen_int (t := 3) (zero := #[.int .i64 0]) h (of_decide_eq_true (by kernel_rfl)) (by kernel_rfl) rfl (by kernel_rfl) (by kernel_rfl) Tryd.underlying3

set_option maxRecDepth 100000 in
set_option maxHeartbeats 800000 in
theorem lifted3 (os : Os) (started : os.Started) (H : Type) (enc : TypeId × Value → H) :
    ReturnsInHanded {} Tryd.checked os 3 .any (fun w args => (Rows.fnAnyValueMatchesScannerModelSpec.pre enc Tryd.prog Tryd.f3 [] false w args ∧ laidMetH Tryd.prog Rows.fnAnyValueMatchesScannerModelRow.laid w) ∧ sizedMet enc Tryd.prog Tryd.f3 (OpenSpec.ofChange Rows.fnAnyValueMatchesScannerModelSpec) false w args)
      (Rows.fnAnyValueMatchesScannerModelSpec.post enc Tryd.prog Tryd.f3 false true false false) := by
  refine returns_shaped (C := Tryd.checked) (X := fun w _ => laidMetH Tryd.prog Rows.fnAnyValueMatchesScannerModelRow.laid w) (fun _ _ _ hh h => h.of_heap hh) own started (by kernel_rfl) Tryd.func3
    (ChangeSpec.witness_shaped (enc := enc) (C := Tryd.checked) (os := os) (X := fun w _ => laidMetH Tryd.prog Rows.fnAnyValueMatchesScannerModelRow.laid w) false (World.laidAll Tryd.prog os Rows.fnAnyValueMatchesScannerModelRow.laid) #[.slice none 0 0, .int .i64 0] 8 (World.laidAll_os _ _ _)
      (World.shaped_of_ZipB (by kernel_rfl) (by kernel_rfl)) (by kernel_rfl) (by kernel_rfl) (by kernel_rfl)
      (by rw [MakeChecks.laidMetH_plain _ _ _ (by kernel_rfl)]; exact laidMet_laidAll _ (by kernel_rfl) (by kernel_rfl))) ?_
  intro W base args ds gs before hval0 hW hL hsh
  have hval : ∀ (j : Nat) t v, Tryd.f3.params[j]? = some t → args[j]? = some v → Value.okWide Tryd.prog W .any base t v := hval0
  have hW' := hW
  obtain ⟨p, q, hA0, hV, rfl, _, _⟩ := hW
  have hA : DataW.TrodAll enc Tryd.prog W 0 (fun _ => true) true Tryd.f3.params.toList args.toList ds p := hA0
  rw [Tryd.params3] at hA hval
  obtain ⟨v0, v1, d0, d1, p0, p1, rfl, rfl, rfl, h0, h1⟩ := trodAll_two hA
  obtain ⟨rfl, rfl⟩ := trodVars_none hV
  obtain ⟨a0, len, cap, rfl⟩ := okWide_slice Tryd.underlying22 (hval 0 22 v0 rfl rfl)
  obtain ⟨i, rfl, rfl, rfl, wi⟩ := open_int Tryd.underlying3 (hval 1 3 v1 rfl rfl) h1
  have hT := tabs_of hL
  obtain ⟨mx, hM⟩ := max_of hsh
  have hlt : ∀ x ∈ p0, x.block < W.heap.size := fun x hx => by
    have := hW'.lt x (by simp [hx])
    simpa using this
  simp only [List.append_nil] at hW'
  have fin : ∀ (e : Ending) (W' : World), (e = .returned (.bool true) ∧ Below W.heap.size W W') → ∃ v, e = .returned v ∧ Rows.fnAnyValueMatchesScannerModelSpec.post enc Tryd.prog Tryd.f3 false true false false W #[.slice a0 len cap, .int .i64 i] v W' := by
    rintro e W' ⟨rfl, hb⟩
    exact ⟨_, rfl, _, _, _, [], p0 ++ [], [], hW', trodAll_mk1 (shut_bool Tryd.underlying4 _), trodAll_mk2 (Below.trod laidOut (by kernel_rfl) (of_decide_eq_true (by kernel_rfl)) h0 hb hlt) (shut_int Tryd.underlying3 wi), rfl, hb.frame _, fun h => by cases h⟩
  have h0k := h0
  obtain ⟨fuel, hf⟩ := h0
  rcases open_ints Tryd.underlying22 Tryd.underlying5 cells5 hf with ⟨hcs, hx⟩ | ⟨a, len', cap', zs, hcs, _, hl, hm, hz, hx, hcell, hwz⟩
  · simp [Value.cells] at hcs
    obtain ⟨rfl, rfl, rfl⟩ := hcs
    refine (law3_out none 0 0 i W (by unfold maxLen; omega) (by omega)).mono fun e W' ⟨he, hw⟩ => fin e W' ⟨he, by rw [hw]; exact Below.refl _ _⟩
  · simp [Value.cells] at hcs
    obtain ⟨rfl, rfl, rfl⟩ := hcs
    simp only [if_true] at hz
    by_cases hin : len ≤ 1048576 ∧ 0 ≤ i ∧ i < len
    · obtain ⟨hn, hi0, hi1⟩ := hin
      obtain ⟨k, rfl⟩ : ∃ k : Nat, i = k := ⟨i.toNat, by omega⟩
      obtain ⟨b, off, rfl, hc⟩ := ints_at hcell (by omega)
      refine (law3_in b off len cap (fun j => zs.getD j 0) k W hn (by omega) ?_ (fun j hj => hc j (by omega)) hT mx hM).mono fun e W' h => fin e W' h
      intro j
      have := range_u8 hwz j
      simp only [List.getD_eq_getElem?_getD]
      omega
    · refine (law3_out (some a) len cap i W (by omega) (by omega)).mono fun e W' ⟨he, hw⟩ => fin e W' ⟨he, by rw [hw]; exact Below.refl _ _⟩

theorem holds3 : Rows.FnAnyValueMatchesScannerModelSaid :=
  OpenClaim.holds_of_wide 3 Tryd.f3 rfl rfl rfl rfl rfl rfl rfl ⟨rfl, rfl, rfl, rfl, rfl⟩ rfl rfl rfl rfl rfl (by kernel_rfl) Tryd.func3 (by kernel_rfl)
    (of_decide_eq_true (by kernel_rfl)) (by unfold Func.isWrapper; first | (rw [if_pos (by decide +kernel)]; kernel_rfl) | (rw [if_neg (by decide +kernel)]; exact ⟨rfl, rfl⟩))
    (fun os started H enc _ => lifted3 os started H enc)
theorem card3_holds : Rows.FnAnyValueMatchesScannerModelCardSaid :=
  Claim7.holds_tied_plain_at .later [] [.data, .pinned] true Rows.fnAnyValueMatchesScannerModelCard.stood.harness false holds3 (fun _ h => by cases h) (by kernel_rfl) (fun _ h => by cases h) fnAnyValueMatchesScannerModel_row_tie rfl ⟨rfl, rfl⟩ (by kernel_rfl) rfl
    (fun f fn hf hfn => by
      obtain rfl : f = 3 := Option.some.inj ((show Tryd.prog.funcNamed Tryd.f3.name = some 3 by kernel_rfl).symm.trans hf) |>.symm
      obtain rfl : fn = Tryd.f3 := (Option.some.inj (Tryd.func3.symm.trans hfn)).symm
      exact ⟨by kernel_rfl, fun j t ht => by
        rw [Tryd.params3] at ht
        have hm : t ∈ [22, 3] := by simpa using Array.mem_of_getElem? ht
        have hall : ([22, 3].all fun u => !Tryd.prog.wantsStandIn u) = true := by kernel_rfl
        exact (show Tryd.prog.wantsStandIn t = false by simpa using List.all_eq_true.1 hall t hm)⟩)
    (by kernel_rfl)
end Go.Proofs.Qxb6000100aDoor
