import Derived.Test.Qxb6003334aDoorLaw4
import Derived.Test.Qxb6003334aDoorEnc2
set_option linter.unusedSimpArgs false
set_option linter.unusedVariables false
namespace Go.Proofs.Qxb6003334aDoor
open Go.RowKit Go.Shelf Go.Proofs.Qxb6003334aDoor.Pl

def segsL (ss : Nat → ByteArray) (n : Nat) : List (List UInt8) := (List.range n).map fun j => (ss j).data.toList
def restL (ss : Nat → ByteArray) (n : Nat) : List (List UInt8) := (List.range n).map fun j => (ss (j + 1)).data.toList
theorem rest_snoc (ss : Nat → ByteArray) (n : Nat) : restL ss (n + 1) = restL ss n ++ [(ss (n + 1)).data.toList] := by
  unfold restL; rw [List.range_succ, List.map_append]; rfl
theorem tail_snoc (l : List (List UInt8)) (s : List UInt8) : tailP (l ++ [s]) = tailP l ++ 47 :: encS s := by
  unfold tailP; rw [List.flatMap_append]; simp
theorem pre_is (ss : Nat → ByteArray) : ∀ i, pre ss (i + 1) = 47 :: (encS (ss 0).data.toList ++ tailP (restL ss i))
  | 0 => by simp [pre, restL, tailP]
  | i + 1 => by
    have ih := pre_is ss i
    have e : pre ss (i + 1 + 1) = (pre ss (i + 1) ++ (if 0 < i + 1 then [47] else [])) ++ encS (ss (i + 1)).data.toList := rfl
    rw [e, ih, if_pos (by omega), rest_snoc, tail_snoc]
    simp
theorem segs_cons (ss : Nat → ByteArray) (i : Nat) : segsL ss (i + 1) = (ss 0).data.toList :: restL ss i := by
  unfold segsL restL
  rw [List.range_succ_eq_map, List.map_cons, List.map_map]
  rfl
theorem pre_split (ss : Nat → ByteArray) (i : Nat) : splitL ((pre ss (i + 1)).drop 1) = (segsL ss (i + 1)).map encS := by
  rw [pre_is, List.drop_succ_cons, List.drop_zero, split_enc, segs_cons, List.map_cons]
theorem pieces_pre (ss : Nat → ByteArray) (n : Nat) (h0 : 0 < n) (t : ByteArray) (ht : t.data.toList = (pre ss n).drop 1) :
    (pieces t).length = n ∧ (∀ p ∈ pieces t, (scanE p.data.toList).isSome = true) ∧ ∀ j, j < n → outOf ((pieces t).getD j ByteArray.empty) = ss j := by
  obtain ⟨i, rfl⟩ : ∃ i, n = i + 1 := ⟨n - 1, by omega⟩
  have hm : (pieces t).map (·.data.toList) = (segsL ss (i + 1)).map encS := by rw [pieces_map, ht, pre_split]
  have hl : (pieces t).length = i + 1 := by
    have := congrArg List.length hm
    simpa [segsL] using this
  refine ⟨hl, fun p hp => ?_, fun j hj => ?_⟩
  · have : p.data.toList ∈ (segsL ss (i + 1)).map encS := by rw [← hm]; exact List.mem_map_of_mem hp
    obtain ⟨s, _, e⟩ := List.mem_map.1 this
    rw [← e]
    obtain ⟨⟨n, hn⟩, _, _⟩ := encS_ok s
    rw [hn]; rfl
  · have hj' : j < (pieces t).length := by omega
    have e : ((pieces t)[j]).data.toList = encS (ss j).data.toList := by
      have h1 := congrArg (fun l => l[j]?) hm
      simp only [List.getElem?_map, List.getElem?_eq_getElem hj', Option.map_some] at h1
      unfold segsL at h1
      rw [List.getElem?_map, List.getElem?_range hj] at h1
      simpa using h1
    rw [List.getD, List.getElem?_eq_getElem hj']
    unfold outOf
    simp only [Option.getD_some]
    rw [e, (encS_ok _).2.1]
theorem pre_head (ss : Nat → ByteArray) (n : Nat) (h0 : 0 < n) : ((pre ss n).head? == some 47) = true := by
  obtain ⟨i, rfl⟩ : ∃ i, n = i + 1 := ⟨n - 1, by omega⟩
  rw [pre_is]; rfl

/-- The law's own bound. -/
def tt (ss : Nat → ByteArray) : Nat → Nat
  | 0 => 0
  | i + 1 => tt ss i + (16 + (ss i).size)
theorem tot_tt (ss : Nat → ByteArray) : ∀ i, tot ss i ≤ 3 * tt ss i
  | 0 => Nat.le_refl _
  | i + 1 => by have := tot_tt ss i; show tot ss i + _ ≤ 3 * (tt ss i + _); omega
theorem str_ne (a : ByteArray) : (a.toList == a.toList) = true := by simp

set_option maxHeartbeats 2000000 in
/-- The law at an empty slice, or one that is too long. -/
theorem law3_out (a : Option Addr) (b off n cap : Nat) (ss : Nat → ByteArray) (w : World) (hn : n ≤ maxLen) (ha : 0 < n → a = some ⟨b, off, none⟩) (hc : ∀ k, k < n → w.cell? ⟨b, off + k, none⟩ = some (.string (ss k))) (h : n = 0 ∨ 65536 < n) :
    Calls Tryd.prog 3 #[.slice a n cap] w fun e w' => e = .returned (.bool true) ∧ w' = w := by
  have k5 := bytes5 a b off n cap ss w hn ha hc
  unfold maxLen at hn
  clear hc ha
  by_cases h1 : n = 0
  · subst h1
    clear h
    go_enter Tryd.func3, Tryd.ntmps3
    go_wp2_with fail
    refine k5.mono ?_
    rintro e w0 ⟨⟨r, rfl, _⟩, rfl⟩
    cases r with
    | false => go_wp2; go_ret; exact ⟨rfl, rfl⟩
    | true =>
      go_wp2
      go_loop [3, 4] (fun z i => z = .int .i64 0 ∧ i = .int .i64 0) (fun _ _ => 0)
      case atStart => exact ⟨rfl, rfl⟩
      case round =>
        obtain ⟨rfl, rfl⟩ := hrel
        go_wp2
        go_ret
        exact ⟨rfl, rfl⟩
  · have h2 : (65536 : Int) < n := by omega
    clear h
    go_enter Tryd.func3, Tryd.ntmps3
    go_wp2_with fail
    refine k5.mono ?_
    rintro e w0 ⟨⟨r, rfl, _⟩, rfl⟩
    cases r with
    | false => go_wp2; go_ret; exact ⟨rfl, rfl⟩
    | true => go_wp2; go_ret; exact ⟨rfl, rfl⟩

set_option maxHeartbeats 4000000 in
set_option maxRecDepth 100000 in
theorem law3_in (b off n cap : Nat) (ss : Nat → ByteArray) (w : World) (hn : n ≤ 65536) (h0 : 0 < n) (hc : ∀ k, k < n → w.cell? ⟨b, off + k, none⟩ = some (.string (ss k)))
    (hT : HexTab w) (mx : Int) (hM : w.cell? ⟨1, 0, none⟩ = some (.int .i64 mx)) :
    Calls Tryd.prog 3 #[.slice (some ⟨b, off, none⟩) n cap] w fun e w' => e = .returned (.bool true) ∧ Below w.heap.size w w' := by
  have k5 := bytes5 (some ⟨b, off, none⟩) b off n cap ss w (by unfold maxLen; omega) (fun _ => rfl) hc
  have k6 := clone6 b off n cap ss w (by omega) h0 hc
  have hg1 : 1 < w.heap.size := World.block_lt_of_cell? _ _ hM
  have HC := hide hc
  have HT := hide hT
  have HM := hide hM
  clear hc hT hM
  have h65 : ¬ (65536 : Int) < n := by omega
  have hz : ((n : Int) == 0) = false := beq_eq_false_iff_ne.2 (by omega)
  go_enter Tryd.func3, Tryd.ntmps3
  go_wp2_with fail
  refine k5.mono ?_
  rintro e w0 ⟨⟨r, rfl, hr⟩, rfl⟩
  cases r with
  | false => go_wp2; go_ret; exact ⟨rfl, Below.refl _ _⟩
  | true =>
    have HS := hide (hr rfl)
    clear hr k5
    go_wp2
    go_loop [3, 4] (fun z i => ∃ k : Nat, i = .int .i64 k ∧ k ≤ n ∧ z = .int .i64 (tt ss k : Nat) ∧ tt ss k ≤ 1048576) (fun _ i => n - (intOf i).toNat)
    case atStart => exact ⟨0, rfl, Nat.zero_le _, rfl, Nat.zero_le _⟩
    case round =>
      obtain ⟨k, rfl, hk, rfl, htk⟩ := hrel
      by_cases hlt : k < n
      · have hltz : (k : Int) < n := by omega
        have hcx := unhide HC k hlt
        have hsz := unhide HS k hlt
        have HT1 : Hid (tt ss (k + 1) = tt ss k + (16 + (ss k).size)) := by unfold Hid; rfl
        generalize ss k = s at *
        by_cases hbig : tt ss k + (16 + s.size) ≤ 1048576
        · have hbz : ¬ (1048576 : Int) < (tt ss k : Int) + (16 + s.size) := by omega
          go_wp2
          go_round
          case rel => exact ⟨k + 1, by go_num, by omega, by rw [unhide HT1]; go_num, by rw [unhide HT1]; exact hbig⟩
          case measure => simp [intOf]; omega
        · have hbz : (1048576 : Int) < (tt ss k : Int) + (16 + s.size) := by omega
          go_wp2
          go_ret
          exact ⟨rfl, Below.refl _ _⟩
      · obtain rfl : k = n := by omega
        have hltz : ¬ (k : Int) < k := by omega
        have htot : tot ss k ≤ 4194304 := by have := tot_tt ss k; omega
        clear HC HS htk
        generalize tt ss k = T at *
        go_wp2_with fail
        refine k6.mono ?_
        rintro e w1 ⟨rfl, hL, hb1⟩
        clear k6
        have k7 := encode7 w0.heap.size k ss w1 hn h0 htot hL
        have hT1 := (unhide HT).below hb1
        have hM1 : w1.cell? ⟨1, 0, none⟩ = some (.int .i64 mx) := (hb1.cell (p := ⟨1, 0, none⟩) hg1).trans (unhide HM)
        have hpl := pre_len ss k
        have hppos := pre_pos ss k
        have hphd := pre_head ss k h0
        obtain ⟨raw, hraw⟩ : ∃ raw : ByteArray, raw = ⟨(pre ss k).toArray⟩ := ⟨_, rfl⟩
        rw [← hraw] at k7
        have hrl : raw.data.toList = pre ss k := by rw [hraw]
        have hrs : raw.size = (pre ss k).length := by rw [← hrl]; simp
        rw [← hrl] at hphd
        obtain ⟨t, ht⟩ : ∃ t, raw.extract 1 raw.size = t := ⟨_, rfl⟩
        have htl : t.data.toList = (pre ss k).drop 1 := by rw [← ht, tail_list, hrl]
        have hpp := pieces_pre ss k h0 t htl
        have k8 := fun u w hu hT hM => zz8_yes u raw t w (by omega) (by omega) ht hu hphd hT mx hM
        have HL := hide hL
        have HT1 := hide hT1
        have HM1 := hide hM1
        have HPP := hide hpp
        clear hL hT1 hM1 hpl hppos hphd hrl hrs ht htl hpp hraw HT HM htot
        have hsz1 := hb1.size
        generalize pieces t = ps at *
        go_wp2_with fail
        refine k7.mono ?_
        rintro e w2 ⟨rfl, hb2⟩
        clear k7
        have hb02 : Below w0.heap.size w0 w2 := hb1.trans (hb2.mono hsz1)
        have hg12 : 1 < w2.heap.size := by have := hb2.size; omega
        go_wp2_with fail
        refine (k8 _ _ (url_cell _ _ _) ?hT2 ?hM2).mono ?_
        case hT2 => exact ((unhide HT1).below hb2).below ((Below.refl _ _).alloc (Nat.le_refl _) _)
        case hM2 =>
          refine (((Below.refl w2.heap.size w2).alloc (Nat.le_refl _) _).cell (p := ⟨1, 0, none⟩) hg12).trans ?_
          exact (hb2.cell (p := ⟨1, 0, none⟩) (by have := hb1.size; show 1 < w1.heap.size; omega)).trans (unhide HM1)
        clear k8
        rintro e w3 ⟨hb3, h⟩
        obtain ⟨hplen, hpok, hpout⟩ := unhide HPP
        rcases h with ⟨rfl, _, hcells, hsz3⟩ | ⟨rfl, p, hp, hbad⟩
        · have hb03 : Below w0.heap.size w0 w3 := (hb02.trans ((Below.refl _ _).alloc hb02.size _)).trans (hb3.mono (by have := hb02.size; simp; omega))
          have hG : Hid (∀ j, j < k → w3.cell? ⟨w2.heap.size + 1, j, none⟩ = some (.string (ss j))) := fun j hj => by
            have := hcells j (by omega)
            rw [World.size_alloc, hpout j hj] at this
            exact this
          have hS : Hid (∀ j, j < k → w3.cell? ⟨w0.heap.size, j, none⟩ = some (.string (ss j))) := fun j hj => by
            have h1 := unhide HL j hj
            have hlt1 := World.block_lt_of_cell? _ _ h1
            have h2 := hb2.cell (p := ⟨w0.heap.size, j, none⟩) hlt1
            have hlt2 : w0.heap.size < w2.heap.size := by have := hb2.size; exact Nat.lt_of_lt_of_le hlt1 this
            have h3 := ((Below.refl w2.heap.size w2).alloc (Nat.le_refl _) (.cells #[.string ⟨#[]⟩, .string ⟨#[]⟩, .pointer none, .string ⟨#[]⟩, .string ⟨#[47]⟩, .string ⟨#[]⟩, .string ⟨#[]⟩, .string raw, .string ⟨#[]⟩, .bool false, .bool false] 31)).cell (p := ⟨w0.heap.size, j, none⟩) hlt2
            have h4 := hb3.cell (p := ⟨w0.heap.size, j, none⟩) (by simp; omega)
            rw [h4, h3, h2]; exact h1
          clear hcells hpok hpout HL HPP HT1 HM1 hb1 hb2 hb3 hb02
          have hlen : ((ps.length : Int) == (k : Int)) = true := by rw [hplen]; simp
          go_wp2
          go_loopw [8] (fun i wr => ∃ q r : Nat, i = .int .i64 q ∧ q ≤ k ∧ wr = w3.drewN r) (fun i _ => k - (intOf i).toNat)
          case atStart => exact ⟨0, 0, rfl, Nat.zero_le _, rfl⟩
          case round =>
            obtain ⟨q, r, rfl, hq, rfl⟩ := hrel
            by_cases hlt : q < k
            · have hqz : (q : Int) < k := by omega
              have c1 := unhide hG q hlt
              have c2 := unhide hS q hlt
              generalize ss q = s at *
              go_wp2
              go_quiet (fail)
              go_wp2
              go_roundw
              case rel => exact ⟨q + 1, _, by go_num, by omega, rfl⟩
              case measure => simp [intOf]; omega
            · obtain rfl : q = k := by omega
              have hqz : ¬ (q : Int) < q := by omega
              go_wp2
              go_ret
              exact ⟨rfl, below_drewN hb03 r⟩
        · exfalso
          have := hpok p hp
          rw [hbad] at this
          cases this
end Go.Proofs.Qxb6003334aDoor
