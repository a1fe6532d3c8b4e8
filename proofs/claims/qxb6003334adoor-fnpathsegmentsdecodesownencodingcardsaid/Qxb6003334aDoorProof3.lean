import Derived.Test.Qxb6003334aDoorProof4
import Derived.Test.Qxb6003334aDoorLaw3
import Derived.SliceStrings
namespace Go.Proofs.Qxb6003334aDoor
open Go.ChangeShapes Go.WideShapes Go.ChangeAt Go.RowKit Go.Shelf Go.Proofs.Qxb6003334aDoor.Pl

theorem laidOut : laidOutB Tryd.prog = true := by kernel_rfl
theorem cells9 : Tryd.prog.cellsOf 9 = 1 := by kernel_rfl
/-- A slice of strings that has a cell lies at a plain address. -/
theorem strs_at {w : World} {a : Addr} {ss : List ByteArray} (h : ∀ i, i < ss.length → w.cell? (a.add i) = some (.string (ss.getD i ByteArray.empty))) (hp : 0 < ss.length) :
    ∃ b off, a = ⟨b, off, none⟩ ∧ ∀ j, j < ss.length → w.cell? ⟨b, off + j, none⟩ = some (.string (ss.getD j ByteArray.empty)) := by
  obtain ⟨b, off, spot⟩ := a
  have hspot : spot = none := by simpa [Addr.add] using World.cell?_spot (h 0 hp)
  subst hspot
  exact ⟨b, off, rfl, fun j hj => by rw [← Go.WideShapes.add_plain]; exact h j hj⟩

set_option maxRecDepth 100000 in
set_option maxHeartbeats 800000 in
theorem lifted3 (os : Os) (started : os.Started) (H : Type) (enc : TypeId × Value → H) :
    ReturnsInHanded {} Tryd.checked os 3 .any (fun w args => (Rows.fnPathSegmentsDecodesOwnEncodingSpec.pre enc Tryd.prog Tryd.f3 [] false w args ∧ laidMetH Tryd.prog Rows.fnPathSegmentsDecodesOwnEncodingRow.laid w) ∧ sizedMet enc Tryd.prog Tryd.f3 (OpenSpec.ofChange Rows.fnPathSegmentsDecodesOwnEncodingSpec) false w args)
      (Rows.fnPathSegmentsDecodesOwnEncodingSpec.post enc Tryd.prog Tryd.f3 false true false false) := by
  refine returns_shaped (C := Tryd.checked) (X := fun w _ => laidMetH Tryd.prog Rows.fnPathSegmentsDecodesOwnEncodingRow.laid w) (fun _ _ _ hh h => h.of_heap hh) own started (by kernel_rfl) Tryd.func3
    (ChangeSpec.witness_shaped (enc := enc) (C := Tryd.checked) (os := os) (X := fun w _ => laidMetH Tryd.prog Rows.fnPathSegmentsDecodesOwnEncodingRow.laid w) false (World.laidAll Tryd.prog os Rows.fnPathSegmentsDecodesOwnEncodingRow.laid) #[.slice none 0 0] 8 (World.laidAll_os _ _ _)
      (World.shaped_of_ZipB (by kernel_rfl) (by kernel_rfl)) (by kernel_rfl) (by kernel_rfl) (by kernel_rfl)
      (by rw [MakeChecks.laidMetH_plain _ _ _ (by kernel_rfl)]; exact laidMet_laidAll _ (by kernel_rfl) (by kernel_rfl))) ?_
  intro W base args ds gs before hval0 hW hL hsh
  have hval : ∀ (j : Nat) t v, Tryd.f3.params[j]? = some t → args[j]? = some v → Value.okWide Tryd.prog W .any base t v := hval0
  have hW' := hW
  obtain ⟨p, q, hA0, hV, rfl, _, _⟩ := hW
  have hA : DataW.TrodAll enc Tryd.prog W 0 (fun _ => true) true Tryd.f3.params.toList args.toList ds p := hA0
  rw [Tryd.params3] at hA hval
  obtain ⟨v0, d0, rfl, rfl, h0⟩ := trodAll_one hA
  obtain ⟨rfl, rfl⟩ := trodVars_none hV
  obtain ⟨a0, len, cap, rfl⟩ := okWide_slice Tryd.underlying22 (hval 0 22 v0 rfl rfl)
  have hlt : ∀ x ∈ p, x.block < W.heap.size := fun x hx => by
    have := hW'.lt x (by simp [hx])
    simpa using this
  simp only [List.append_nil] at hW'
  rw [MakeChecks.laidMetH_plain _ _ _ (by kernel_rfl)] at hL
  have hT : HexTab W := tab_of (by kernel_rfl) hL (.tail _ (.head _))
  obtain ⟨mx, hM⟩ := max_of hsh
  have fin : ∀ (e : Ending) (W' : World), (e = .returned (.bool true) ∧ Below W.heap.size W W') → ∃ v, e = .returned v ∧ Rows.fnPathSegmentsDecodesOwnEncodingSpec.post enc Tryd.prog Tryd.f3 false true false false W #[.slice a0 len cap] v W' := by
    rintro e W' ⟨rfl, hb⟩
    exact ⟨_, rfl, _, _, _, [], p, [], hW', trodAll_mk1 (shut_bool Tryd.underlying4 _), trodAll_mk1 (Below.trod laidOut (by kernel_rfl) (of_decide_eq_true (by kernel_rfl)) h0 hb hlt), rfl, hb.frame _, fun h => by cases h⟩
  have h0k := h0
  obtain ⟨fuel, hf⟩ := h0
  rcases open_strings Tryd.underlying22 Tryd.underlying9 cells9 hf with ⟨hcs, hx⟩ | ⟨a, len', cap', ss, hcs, _, hl, hm, hz, hx, hcell, hws⟩
  · simp [Value.cells] at hcs
    obtain ⟨rfl, rfl, rfl⟩ := hcs
    refine (law3_out none 0 0 0 0 (fun _ => ByteArray.empty) W (by unfold maxLen; omega) (by omega) (fun k hk => by omega) (Or.inl rfl)).mono fun e W' ⟨he, hw⟩ => fin e W' ⟨he, by rw [hw]; exact Below.refl _ _⟩
  · simp [Value.cells] at hcs
    obtain ⟨rfl, rfl, rfl⟩ := hcs
    simp only [if_true] at hz
    by_cases hn0 : len = 0
    · subst hn0
      refine (law3_out (some a) 0 0 0 cap (fun _ => ByteArray.empty) W (by unfold maxLen; omega) (by omega) (fun k hk => by omega) (Or.inl rfl)).mono fun e W' ⟨he, hw⟩ => fin e W' ⟨he, by rw [hw]; exact Below.refl _ _⟩
    · obtain ⟨b, off, rfl, hc⟩ := strs_at hcell (by omega)
      by_cases hin : len ≤ 65536
      · exact (law3_in b off len cap (fun j => ss.getD j ByteArray.empty) W hin (by omega) (fun j hj => hc j (by omega)) hT mx hM).mono fin
      · refine (law3_out (some ⟨b, off, none⟩) b off len cap (fun j => ss.getD j ByteArray.empty) W (by omega) (fun _ => rfl) (fun j hj => hc j (by omega)) (Or.inr (by omega))).mono fun e W' ⟨he, hw⟩ => fin e W' ⟨he, by rw [hw]; exact Below.refl _ _⟩

theorem holds3 : Rows.FnPathSegmentsDecodesOwnEncodingSaid :=
  OpenClaim.holds_of_wide 3 Tryd.f3 rfl rfl rfl rfl rfl rfl rfl ⟨rfl, rfl, rfl, rfl, rfl⟩ rfl rfl rfl rfl rfl (by kernel_rfl) Tryd.func3 (by kernel_rfl)
    (of_decide_eq_true (by kernel_rfl)) (by unfold Func.isWrapper; first | (rw [if_pos (by decide +kernel)]; kernel_rfl) | (rw [if_neg (by decide +kernel)]; exact ⟨rfl, rfl⟩))
    (fun os started H enc _ => lifted3 os started H enc)
theorem card3_holds : Rows.FnPathSegmentsDecodesOwnEncodingCardSaid :=
  Claim7.holds_tied_plain_at .later [] [.data, .data, .pinned] true Rows.fnPathSegmentsDecodesOwnEncodingCard.stood.harness false holds3 (fun _ h => by cases h) (by kernel_rfl) (fun _ h => by cases h) fnPathSegmentsDecodesOwnEncoding_row_tie rfl ⟨rfl, rfl⟩ (by kernel_rfl) rfl
    (fun f fn hf hfn => by
      obtain rfl : f = 3 := Option.some.inj ((show Tryd.prog.funcNamed Tryd.f3.name = some 3 by kernel_rfl).symm.trans hf) |>.symm
      obtain rfl : fn = Tryd.f3 := (Option.some.inj (Tryd.func3.symm.trans hfn)).symm
      exact ⟨by kernel_rfl, fun j t ht => by
        rw [Tryd.params3] at ht
        have hm : t ∈ [22] := by simpa using Array.mem_of_getElem? ht
        have hall : ([22].all fun u => !Tryd.prog.wantsStandIn u) = true := by kernel_rfl
        exact (show Tryd.prog.wantsStandIn t = false by simpa using List.all_eq_true.1 hall t hm)⟩)
    (by kernel_rfl)
end Go.Proofs.Qxb6003334aDoor
