import Derived.Test.Qxb6003334aDoorSegs
set_option linter.unusedSimpArgs false
set_option linter.unusedVariables false
namespace Go.Proofs.Qxb6003334aDoor
open Go.RowKit Go.Shelf Go.Proofs.Qxb6003334aDoor.Pl

def sumTo (ps : List ByteArray) (k : Nat) : Nat := ((ps.take k).map fun p => (unT p.data.toList).length).sum
theorem sumTo_succ (ps : List ByteArray) (k : Nat) (h : k < ps.length) : sumTo ps (k + 1) = sumTo ps k + (unT (ps.getD k ByteArray.empty).data.toList).length := by
  unfold sumTo
  rw [List.take_succ_eq_append_getElem h, List.map_append, List.sum_append, List.getD, List.getElem?_eq_getElem h]
  simp
theorem sumTo_all (s : ByteArray) : sumTo (pieces s) (pieces s).length = sumLen (splitL s.data.toList) := by
  unfold sumTo sumLen
  rw [List.take_length, ← pieces_map, List.map_map]
  rfl
theorem sumTo_le (ps : List ByteArray) (k : Nat) : sumTo ps k ≤ sumTo ps ps.length := by
  unfold sumTo
  rw [List.take_length]
  conv => rhs; rw [← List.take_append_drop k ps]
  rw [List.map_append, List.sum_append]
  omega
theorem tail_list (raw : ByteArray) : (raw.extract 1 raw.size).data.toList = raw.data.toList.drop 1 := by
  rw [Lib.extract_data, List.take_of_length_le (by simp)]
theorem count_snoc (raw : ByteArray) (j : Nat) (h : j + 1 < raw.size) : ((raw.data.toList.drop 1).take (j + 1)).count 47 = ((raw.data.toList.drop 1).take j).count 47 + if ((raw[j + 1].toNat : Int) == 47) = true then 1 else 0 := by
  have hl : j < (raw.data.toList.drop 1).length := by simp; omega
  have e : (raw.data.toList.drop 1)[j] = raw[j + 1] := by
    rw [List.getElem_drop]
    simp only [Nat.add_comm 1 j]; rfl
  rw [List.take_succ_eq_append_getElem hl, List.count_append, e, List.count_singleton]
  have : (raw[j + 1] == (47 : UInt8)) = ((raw[j + 1].toNat : Int) == 47) := by
    rw [Bool.eq_iff_iff]
    simp only [beq_iff_eq]
    constructor
    · intro h; rw [h]; rfl
    · intro h; exact UInt8.toNat_inj.1 (show raw[j + 1].toNat = 47 by omega)
  rw [this]
theorem url_cell (w : World) (path raw : ByteArray) : (w.alloc (.cells #[.string ⟨#[]⟩, .string ⟨#[]⟩, .pointer none, .string ⟨#[]⟩, .string path, .string ⟨#[]⟩, .string ⟨#[]⟩, .string raw, .string ⟨#[]⟩, .bool false, .bool false] 31)).cell? ⟨w.heap.size, 7, none⟩ = some (.string raw) := by
  rw [World.cell?_alloc_at _ _ _ _ rfl]; rfl
theorem head_of (raw : ByteArray) (h : 0 < raw.size) : (raw.data.toList.head? == some 47) = ((raw[0].toNat : Int) == 47) := by
  have e : raw.data.toList.head? = some raw[0] := by
    rw [List.head?_eq_getElem?, List.getElem?_eq_getElem (by simpa using h)]; rfl
  rw [e, Bool.eq_iff_iff]
  simp only [beq_iff_eq, Option.some.injEq]
  constructor
  · intro h; rw [h]; rfl
  · intro h; exact UInt8.toNat_inj.1 (show raw[0].toNat = 47 by exact_mod_cast h)

set_option maxHeartbeats 2000000 in
/-- The law, where it answers at once. -/
theorem law4_out (raw : ByteArray) (w : World) (hs : raw.size ≤ maxLen) (h : 1048576 < raw.size ∨ raw.size = 0) :
    Calls Tryd.prog 4 #[.string raw] w fun e w' => e = .returned (.bool true) ∧ w' = w := by
  have k9 := bytes9 raw w hs
  unfold maxLen at hs
  by_cases h1 : raw.size ≤ 1048576
  · rw [decide_eq_true h1] at k9
    have h0 : ((raw.size : Int) == 0) = true := beq_iff_eq.2 (by omega)
    have h1' : ¬ (1048576 : Int) < raw.size := by omega
    clear h
    go_enter Tryd.func4, Tryd.ntmps4
    go_wp2_with fail
    refine k9.mono ?_
    rintro e w0 ⟨rfl, rfl⟩
    go_wp2
    go_ret
    exact ⟨rfl, rfl⟩
  · rw [decide_eq_false h1] at k9
    clear h
    go_enter Tryd.func4, Tryd.ntmps4
    go_wp2_with fail
    refine k9.mono ?_
    rintro e w0 ⟨rfl, rfl⟩
    go_wp2
    go_ret
    exact ⟨rfl, rfl⟩

set_option maxHeartbeats 2000000 in
set_option maxRecDepth 100000 in
theorem law4_in (raw : ByteArray) (w : World) (hs : raw.size ≤ 1048576) (h0 : 0 < raw.size) (hT : HexTab w) (mx : Int) (hM : w.cell? ⟨1, 0, none⟩ = some (.int .i64 mx)) :
    Calls Tryd.prog 4 #[.string raw] w fun e w' => e = .returned (.bool true) ∧ Below w.heap.size w w' := by
  have k9 := bytes9 raw w (by unfold maxLen; omega)
  rw [decide_eq_true hs] at k9
  have k10 := scan10 raw w hs
  have h1' : ¬ (1048576 : Int) < raw.size := by omega
  have hz : ((raw.size : Int) == 0) = false := beq_eq_false_iff_ne.2 (by omega)
  have hnil := fun (w : World) => Lib.run_eql_slice_nil (P := Tryd.prog) w 22 9 none 0 0 0 0 Tryd.underlying22
  have hg1 : 1 < w.heap.size := World.block_lt_of_cell? _ _ hM
  have hhd := head_of raw h0
  cases h47 : ((raw[0].toNat : Int) == 47) with
  | false =>
    rw [h47] at hhd
    have k8 := fun u w hu => zz8_no u raw w h0 hu hhd
    clear hhd hT hM
    go_enter Tryd.func4, Tryd.ntmps4
    go_wp2_with fail
    refine k9.mono ?_
    rintro e w0 ⟨rfl, rfl⟩
    go_wp2_with fail
    refine k10.mono ?_
    rintro e w0 ⟨⟨n, rfl, _⟩, rfl⟩
    clear k9 k10
    go_wp2_with fail
    refine (k8 _ _ (url_cell _ _ _)).mono ?_
    rintro e w2 ⟨rfl, hw2⟩
    clear k8
    have hb : Below w0.heap.size w0 w2 := by rw [hw2]; exact (Below.refl _ _).alloc (Nat.le_refl _) _
    clear hw2
    go_wp2
    go_ret
    exact ⟨rfl, hb⟩
  | true =>
    rw [h47] at hhd
    have hcons : raw.data.toList = 47 :: raw.data.toList.drop 1 := by
      cases hr : raw.data.toList with
      | nil => rw [hr] at hhd; cases hhd
      | cons a r => rw [hr] at hhd; simp at hhd; rw [hhd]; rfl
    have hscan : scanE raw.data.toList = scanE (raw.data.toList.drop 1) := by
      conv => lhs; rw [hcons]
      exact scan_plain 47 _ (by decide)
    rw [hscan] at k10
    have hlaw := split_law (raw.data.toList.drop 1)
    have htl := tail_list raw
    obtain ⟨t, ht⟩ : ∃ t, raw.extract 1 raw.size = t := ⟨_, rfl⟩
    have k8 := fun u w hu hT hM => zz8_yes u raw t w h0 (by omega) ht hu hhd hT mx hM
    have hpm := pieces_map t
    have hsum := sumTo_all t
    have hple := sumTo_le (pieces t)
    have hplen := pieces_len' t
    rw [ht] at htl
    rw [htl] at hpm hsum hplen
    have hdl : (raw.data.toList.drop 1).length = raw.size - 1 := by simp
    have hcs := fun j => count_snoc raw j
    have hcl : ∀ j, ((raw.data.toList.drop 1).take j).count 47 ≤ j := fun j => Nat.le_trans List.count_le_length (List.length_take_le _ _)
    have hcend : ((raw.data.toList.drop 1).take (raw.size - 1)).count 47 = (raw.data.toList.drop 1).count 47 := by rw [List.take_of_length_le (by omega)]
    have HPM := hide hpm
    have HSUM := hide hsum
    have HPLE := hide hple
    have HPLEN := hide hplen
    have HCS := hide hcs
    have HCL := hide hcl
    have HCE := hide hcend
    have HLAW := hide hlaw
    have HDL := hide hdl
    have HT := hide hT
    have HM := hide hM
    clear hpm hsum hple hplen hcs hcl hcend hlaw hdl hT hM hcons hscan htl ht hhd
    generalize raw.data.toList.drop 1 = l at *
    go_enter Tryd.func4, Tryd.ntmps4
    go_wp2_with fail
    refine k9.mono ?_
    rintro e w0 ⟨rfl, rfl⟩
    go_wp2_with fail
    refine k10.mono ?_
    rintro e w0 ⟨⟨n, rfl, hn⟩, rfl⟩
    have HN := hide hn
    clear k9 k10 hn
    go_wp2_with fail
    refine (k8 _ _ (url_cell _ _ _) ?hT1 ?hM1).mono ?_
    case hT1 => exact (unhide HT).below ((Below.refl _ _).alloc (Nat.le_refl _) _)
    case hM1 => exact (((Below.refl w0.heap.size w0).alloc (Nat.le_refl _) _).cell (p := ⟨1, 0, none⟩) hg1).trans (unhide HM)
    clear k8
    rintro e w2 ⟨hb, h⟩
    have hb2 : Below w0.heap.size w0 w2 := ((Below.refl _ _).alloc (Nat.le_refl _) _).trans (hb.mono (by simp))
    clear hb
    rcases h with ⟨rfl, hall, hcells, hsz2⟩ | ⟨rfl, p, hp, hbad⟩
    · cases hsl : scanE l with
      | none =>
        exfalso
        obtain ⟨s, hs1, hs2⟩ := (unhide HLAW).2 hsl
        rw [← unhide HPM] at hs1
        obtain ⟨p, hp, e⟩ := List.mem_map.1 hs1
        have := hall p hp
        rw [e, hs2] at this
        cases this
      | some n' =>
        obtain ⟨_, hlen⟩ := (unhide HLAW).1 n' hsl
        have hnn := unhide HN n' hsl
        have hpl := unhide HPLEN
        have hc0 := (unhide HCL) (raw.size - 1)
        rw [unhide HCE] at hc0
        have hdl := unhide HDL
        have hsum := unhide HSUM
        subst hnn
        have hcells' : ∀ j, j < (pieces t).length → w2.cell? ⟨w0.heap.size + 1, j, none⟩ = some (.string (outOf ((pieces t).getD j ByteArray.empty))) := fun j hj => by
          have := hcells j hj
          rw [World.size_alloc] at this
          exact this
        have HCC := hide hcells'
        clear hcells'
        clear hall hcells HN HLAW hsl HPM
        generalize pieces t = ps at *
        generalize hcnt : l.count 47 = cn at *
        have HCNT := hide hcnt
        have HSUM := hide hsum
        have HLEN := hide hlen
        clear hcnt hsum hlen
        go_wp2
        go_loop [8, 9] (fun c i => ∃ j : Nat, i = .int .i64 ((j : Int) + 1) ∧ j + 1 ≤ raw.size ∧ c = .int .i64 ((l.take j).count 47 : Nat)) (fun _ i => raw.size - (intOf i).toNat)
        case atStart => exact ⟨0, by go_num, by omega, by simp⟩
        case round =>
          obtain ⟨j, rfl, hj, rfl⟩ := hrel
          have hcj := unhide HCL j
          by_cases hlt : j + 1 < raw.size
          · have H1 := hide (unhide HCS j hlt)
            have hltz : (j : Int) + 1 < raw.size := by omega
            cases hcc : ((raw[j + 1].toNat : Int) == 47) with
            | true =>
              have H2 : Hid ((l.take (j + 1)).count 47 = (l.take j).count 47 + 1) := by unfold Hid; rw [unhide H1, if_pos hcc]
              clear H1
              go_wp2
              go_round
              case rel => exact ⟨j + 1, by go_num, by omega, by rw [unhide H2]; go_num⟩
              case measure => simp [intOf]; omega
            | false =>
              have H2 : Hid ((l.take (j + 1)).count 47 = (l.take j).count 47) := by unfold Hid; rw [unhide H1, hcc]; rfl
              clear H1
              go_wp2
              go_round
              case rel => exact ⟨j + 1, by go_num, by omega, by rw [unhide H2]⟩
              case measure => simp [intOf]; omega
          · have hje : j = raw.size - 1 := by omega
            have hck : (l.take j).count 47 = cn := by rw [hje, unhide HCE]
            rw [hck]
            have hltz : ¬ (j : Int) + 1 < raw.size := by omega
            clear hck hcj hje
            have hb3 := unhide HPLE ps.length
            have htot : sumTo ps ps.length + cn + 2 * n' = raw.size - 1 := by
              have h1 := unhide HSUM; have h2 := unhide HLEN; omega
            go_wp2
            have HTOT := hide htot
            clear htot hb3
            go_loop [10, 11] (fun c i => ∃ k : Nat, i = .int .i64 k ∧ k ≤ cn + 1 ∧ c = .int .i64 (sumTo ps k : Nat)) (fun _ i => cn + 1 - (intOf i).toNat)
            case atStart => exact ⟨0, rfl, by omega, rfl⟩
            case round =>
              obtain ⟨k, rfl, hk, rfl⟩ := hrel
              have hsk := unhide HPLE k
              have hst : sumTo ps ps.length ≤ 1048576 := by have := unhide HTOT; omega
              by_cases hklt : k < cn + 1
              · have hsk1 := unhide HPLE (k + 1)
                have H1 := hide (sumTo_succ ps k (by omega))
                have hcx := unhide HCC k (by omega)
                obtain ⟨r, hr⟩ : ∃ r, outOf (ps.getD k ByteArray.empty) = r := ⟨_, rfl⟩
                rw [hr] at hcx
                have hrs : sumTo ps (k + 1) = sumTo ps k + r.size := by
                  rw [unhide H1, ← hr]; rfl
                have HRS := hide hrs
                have hb4 : sumTo ps k + r.size ≤ 1048576 := by omega
                have hkz : (k : Int) < (cn : Int) + 1 := by omega
                clear hr hrs hsk1 H1
                go_wp2
                go_round
                case rel => exact ⟨k + 1, by go_num, by omega, by rw [unhide HRS]; go_num⟩
                case measure => simp [intOf]; omega
              · obtain rfl : k = cn + 1 := by omega
                have hkz : ¬ ((cn : Int) + 1) < (cn : Int) + 1 := by omega
                have hfin : ((sumTo ps (cn + 1) : Nat) : Int) = (raw.size : Int) - 1 - cn - 2 * n' := by
                  have h1 := unhide HTOT; rw [hpl] at h1; omega
                have HF := hide hfin
                clear hfin
                have hnb : (n' : Int) ≤ 1048576 := by have h1 := unhide HTOT; omega
                have hcb : (cn : Int) ≤ 1048576 := by have h1 := unhide HTOT; omega
                go_wp2
                go_ret
                exact ⟨ret_bool (beq_iff_eq.2 (unhide HF)), hb2⟩
    · cases hsl : scanE l with
      | none =>
        go_wp2
        go_ret
        exact ⟨rfl, hb2⟩
      | some n' =>
        exfalso
        obtain ⟨ha, _⟩ := (unhide HLAW).1 n' hsl
        obtain ⟨m, hm⟩ := ha p.data.toList (by rw [← unhide HPM]; exact List.mem_map_of_mem hp)
        rw [hm] at hbad
        cases hbad
end Go.Proofs.Qxb6003334aDoor
