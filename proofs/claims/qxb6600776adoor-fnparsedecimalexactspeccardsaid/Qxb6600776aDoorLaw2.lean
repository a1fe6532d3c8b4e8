import Derived.Test.Qxb6600776aDoorLaw1
import Derived.Test.Qxb6600776aDoorDs
import Derived.OwnWalk
import Derived.Lib.UnsafeStr
set_option linter.unusedSimpArgs false
set_option linter.unusedVariables false
set_option exponentiation.threshold 10000
namespace Go.Proofs.Qxb6600776aDoor
open Go.RowKit

theorem cells_app (l m : List UInt8) : Lib.byteCells (l ++ m) = Lib.byteCells l ++ Lib.byteCells m := by simp [Lib.byteCells]
/-- The slice v owns the bytes D. -/
def Owns (base : Nat) (v : Value) (D : List UInt8) (w : World) : Prop := w.ownsRow base 5 1 v D.length (Lib.byteCells D)
theorem Owns.app {base : Nat} {v : Value} {D m : List UInt8} {w : World} (h : w.ownsRow base 5 1 v (D.length + m.length) (Lib.byteCells D ++ Lib.byteCells m)) : Owns base v (D ++ m) w := by
  unfold Owns
  rw [List.length_append, cells_app]; exact h
theorem own_ge {w : World} {base e size n : Nat} {v : Value} {xs : List Value} {k : Nat} (h : w.ownsRow base e size v n xs) (hk : v.ownBlock = some k) : base ≤ k := by
  rcases h.2 with ⟨rfl, _⟩ | ⟨g, cap, cur, rfl, hb, _⟩
  · simp [Value.ownBlock] at hk
  · simp [Value.ownBlock] at hk; omega
/-- The owned bytes, opened. -/
theorem Owns.open' {base : Nat} {v : Value} {D : List UInt8} {w : World} (h : Owns base v D w) (hn : 1 ≤ D.length) :
    ∃ g cap, v = .slice (some ⟨g, 0, none⟩) D.length cap ∧ D.length ≤ cap ∧ ∀ j, j < D.length → w.cell? ⟨g, j, none⟩ = some (.int .u8 (D.getD j 0).toNat) := by
  rcases h.2 with ⟨_, h0⟩ | ⟨g, cap, cur, hv, hb, hg, hcap, -⟩
  · omega
  · refine ⟨g, cap, hv, hcap, fun j hj => ?_⟩
    subst hv
    have h' : w.ownsRow base 5 1 (.slice (some ⟨g, 0, none⟩) D.length cap) D.length (Lib.byteCells D) := h
    rw [h'.cellAt j (by omega)]
    simp [Lib.byteCells, List.getD, List.getElem?_eq_getElem hj]
theorem info5 : (Tryd.prog.info? 5).map (fun i => (i.zero, i.size, i.bytes)) = some (some (.int .u8 0), 1, 1) := by kernel_rfl

/-- What the plain law answers, for the exact part. -/
structure Ex (s : ByteArray) (b N K0 : Nat) (D : Nat → Nat) : Prop where
  gr : Gram s
  len : (ds s s.size).length = N
  kf : kf s s.size = K0
  eD : ∀ j, ((ds s s.size).getD j 0).toNat = D j
  dg : Dig D N
  n1 : 1 ≤ N
  k0 : K0 ≤ N
  x0 : num D N = 0 → b = 0
  x1 : ∀ M k, 0 < M → M < 1000000000000000 → 1 ≤ k → k ≤ 22 → k ≤ K0 → num D N = M * 10 ^ (K0 - k) → ∃ r, floatBits .quo .f64 (floatOfInt .f64 M) (w10 k) = some r ∧ FloatKind.f64.format.order b r = some .eq
  x2 : ∀ M e, 0 < M → M < 1000000000000000 → e ≤ 22 → num D N = M * 10 ^ (K0 + e) → ∃ r, floatBits .mul .f64 (floatOfInt .f64 M) (w10 e) = some r ∧ FloatKind.f64.format.order b r = some .eq

set_option maxRecDepth 100000 in
set_option maxHeartbeats 8000000 in
/-- Within range: accepted, finite; exact where the law asks it. -/
theorem law_ok (s : ByteArray) (w : World) (d z y N K0 : Nat) (D : Nat → Nat) (hI : IntP s d z)
    (hcase : d - z ≤ 308 ∨ (d - z = 309 ∧ ∃ (hz0 : z < s.size) (hys : y < s.size), y = z + 1 ∧ s[z].toNat = 49 ∧ s[y].toNat ≤ 54))
    (h7 : Calls Tryd.prog 7 #[.string s] w fun e w' => (∃ (b : Nat) (ok : Bool), e = .returned (.tuple #[.float .f64 b, .bool ok]) ∧ ok = true ∧ Ex s b N K0 D ∧ ∃ o1 o2, FloatKind.f64.format.order b 0 = some o1 ∧ o1 ≠ .lt ∧ FloatKind.f64.format.order b 9218868437227405311 = some o2 ∧ o2 ≠ .gt) ∧ Below w.heap.size w w')
    (h8 : ∀ w, Calls Tryd.prog 8 #[.string s] w fun e w' => e = .returned (.bool true) ∧ w' = w) :
    Calls Tryd.prog 3 #[.string s] w fun e w' => e = .returned (.bool true) ∧ Below w.heap.size w w' := by
  obtain ⟨i0, hi, hz0, hz1, hz2⟩ := info_parts info5
  have HC := hide hcase
  clear hcase
  have h6 := hide (c6_yes s w hI.sz)
  have H7 := hide h7
  have H8 := hide h8
  have h9 := hide (fun w => c9 s w hI.sz d hI.dl hI.bef hI.at')
  have hsz := hI.sz
  have hdl := hI.dl
  have hzl := hI.zl
  have HZ : Hid ((∀ j (h : j < s.size), j < z → s[j].toNat = 48) ∧ (∀ h : z < s.size, z < d → s[z].toNat ≠ 48)) := ⟨hI.zer, hI.one⟩
  clear h7 h8 hI
  have h1 : ¬ (1048576 : Int) < s.size := by omega
  go_enter Tryd.func3, Tryd.ntmps3
  go_wp2_with fail
  refine (unhide h6).mono ?_
  rintro e w1 ⟨rfl, rfl⟩
  go_wp2_with fail
  refine (unhide H7).mono ?_
  rintro e w2 ⟨⟨b, ok, rfl, rfl, hEx, o1, o2, g1, g2, g3, g4⟩, hb⟩
  have HX := hide hEx
  have HG : Hid (FloatKind.f64.format.order b 0 = some o1 ∧ o1 ≠ .lt ∧ FloatKind.f64.format.order b 9218868437227405311 = some o2 ∧ o2 ≠ .gt) := ⟨g1, g2, g3, g4⟩
  clear hEx g1 g2 g3 g4
  have HB := hide hb
  clear hb
  go_wp2_with fail
  refine (unhide H8 _).mono ?_
  rintro e w3 ⟨rfl, rfl⟩
  go_wp2_with fail
  refine (unhide h9 _).mono ?_
  rintro e w4 ⟨rfl, rfl⟩
  go_upto_block 0 with fail
  go_cut [6] from 18 (fun s6 wc => s6 = .int .i64 z ∧ w4 = wc)
  case first => as_aux_lemma =>
    go_wp2_with fail
    go_loopg [6] z (fun g i wr => w4 = wr ∧ ∃ j : Nat, g = z - j ∧ j ≤ z ∧ i = .int .i64 j)
    case atStart => exact ⟨rfl, 0, by omega, by omega, rfl⟩
    case round =>
      obtain ⟨rfl, j, rfl, hj, rfl⟩ := hrel
      by_cases hjz : j < z
      · have hjd : decide (j < d) = true := decide_eq_true (by omega)
        have hjs : j < s.size := by omega
        have h48 := (unhide HZ).1 j hjs hjz
        have y48 : (((s[j].toNat : Nat) : Int) == 48) = true := beq_iff_eq.2 (by omega)
        clear h48
        go_wp2_with fail
        go_roundg (z - (j + 1))
        case measure => omega
        case rel => exact ⟨rfl, j + 1, rfl, by omega, rfl⟩
      · have e : z = j := by omega
        subst e
        by_cases hzd : z < d
        · have hjd : decide (z < d) = true := decide_eq_true hzd
          have hzs : z < s.size := by omega
          have hz48 := (unhide HZ).2 hzs hzd
          have y48 : (((s[z].toNat : Nat) : Int) == 48) = false := beq_eq_false_iff_ne.2 (by omega)
          clear hz48
          go_wp2_with fail
          go_meet
          case rel => exact ⟨rfl, rfl⟩
        · have hjd : decide (z < d) = false := decide_eq_false hzd
          go_wp2_with fail
          go_meet
          case rel => exact ⟨rfl, rfl⟩
  case rest =>
  obtain ⟨rfl, rfl⟩ := hcut
  obtain ⟨n, hn⟩ : ∃ n : Nat, (d : Int) - (z : Int) = (n : Int) := ⟨d - z, by omega⟩
  have hnb : n ≤ 309 := by rcases unhide HC with h | ⟨h, -⟩ <;> omega
  go_upto_region 13 with fail
  go_cut [65] from 18 (fun t wc => t = .bool false ∧ w4 = wc)
  case first => as_aux_lemma =>
    have h310 : ¬ (310 : Int) ≤ (n : Int) := by omega
    by_cases h9 : n = 309
    · obtain ⟨-, q1, q2, q3, q4, q5⟩ : d - z = 309 ∧ ∃ (hz0 : z < s.size) (hys : y < s.size), y = z + 1 ∧ s[z].toNat = 49 ∧ s[y].toNat ≤ 54 := by
        rcases unhide HC with h | h
        · omega
        · exact h
      have h50 : ¬ (50 : Int) ≤ ((s[z].toNat : Nat) : Int) := by omega
      have h9' : ((n : Int) == 309) = true := beq_iff_eq.2 (by omega)
      clear q3 q4 q5 h9
      go_wp2_with fail
      go_meet
      case rel => exact ⟨rfl, rfl⟩
    · have h9' : ((n : Int) == 309) = false := beq_eq_false_iff_ne.2 (by omega)
      clear h9
      go_wp2_with fail
      go_meet
      case rel => exact ⟨rfl, rfl⟩
  case rest =>
  obtain ⟨rfl, rfl⟩ := hcut
  go_upto_region 15 with fail
  go_cut [87] from 18 (fun t wc => t = .bool false ∧ w4 = wc)
  case first => as_aux_lemma =>
    by_cases h9 : n = 309
    · obtain ⟨-, q1, q2, q3, q4, q5⟩ : d - z = 309 ∧ ∃ (hz0 : z < s.size) (hys : y < s.size), y = z + 1 ∧ s[z].toNat = 49 ∧ s[y].toNat ≤ 54 := by
        rcases unhide HC with h | h
        · omega
        · exact h
      have y49 : (((s[z].toNat : Nat) : Int) == 49) = true := beq_iff_eq.2 (by omega)
      have h54 : ((s[y].toNat : Nat) : Int) ≤ 54 := by omega
      have hz1' : (z : Int) + 1 = (y : Int) := by omega
      have h9' : ((n : Int) == 309) = true := beq_iff_eq.2 (by omega)
      clear q3 q4 q5 h9
      go_wp2_with fail
      go_meet
      case rel => exact ⟨rfl, rfl⟩
    · have h9' : ((n : Int) == 309) = false := beq_eq_false_iff_ne.2 (by omega)
      clear h9
      go_wp2_with fail
      go_meet
      case rel => exact ⟨rfl, rfl⟩
  case rest =>
  obtain ⟨rfl, rfl⟩ := hcut
  go_upto_region 19 with fail
  go_cut [107] from 18 (fun t wc => t = .bool false ∧ w4 = wc)
  case first => as_aux_lemma =>
    obtain ⟨g1, g2, g3, g4⟩ := unhide HG
    cases o1 <;> cases o2 <;> first | (exact absurd rfl g2) | (exact absurd rfl g4) | skip
    all_goals
      clear g2 g4
      go_wp2_with fail
      go_meet
      case rel => exact ⟨rfl, rfl⟩
  case rest =>
  obtain ⟨rfl, rfl⟩ := hcut
  clear HG HC HZ hn hnb h6 H7 H8 h9 h1
  have hs4 := (unhide HB).size
  go_wp2_with (first | (at_make; refine wpList_make_own _ rfl _ _ 27 rfl w1.heap.size 5 i0 (.int .u8 0) 1 Tryd.underlying27 hi hz0 hz1 .i64 .i64 _ s.size rfl rfl rfl ?b2 ?b3 ?b4 ?_))
  case b2 => first | omega | (rw [hz2]; omega)
  case b3 => unfold maxLen; omega
  case b4 => omega
  intro w5 hown hgrow
  have hb5 : Below w1.heap.size w1 w5 := (unhide HB).grown hgrow hs4 (fun k hk => by cases hk)
  have HO5 : Hid (Owns w1.heap.size (.slice (some ⟨w4.heap.size, 0, none⟩) 0 s.size) (ds s 0) w5) := hown
  have hs5 := hgrow.size
  have HB5 := hide hb5
  clear hown hgrow hb5
  go_wp2_with fail
  go_loopg [8, 9, 10, 11] s.size (fun g v k dt i wr => ∃ (q : Nat) (v8 : Value), v8 = v ∧ g = s.size - q ∧ q ≤ s.size ∧ i = .int .i64 q ∧ k = .int .i64 (kf s q) ∧ dt = .bool (rk s q).dot ∧ Hid (Owns w1.heap.size v8 (ds s q) wr ∧ Below w1.heap.size w1 wr))
  case atStart => exact ⟨0, _, rfl, by omega, by omega, rfl, rfl, rfl, unhide HO5, unhide HB5⟩
  case round =>
    clear HO5 HB5
    obtain ⟨q, v8, rfl, rfl, hq, rfl, rfl, rfl, hrel⟩ := hrel
    have hkb : kf s q ≤ 1048576 := by have := kf_le s q; have := ds_len s q; omega
    by_cases hlt : q < s.size
    · have hlti : (q : Int) < s.size := by omega
      have hds := ds_succ s q hlt
      have hkf := kf_succ s q hlt
      have hok := (unhide HX).gr q hlt
      by_cases h46 : s[q].toNat = 46
      · have y46 : (((s[q].toNat : Nat) : Int) == 46) = true := beq_iff_eq.2 (by omega)
        rw [if_pos h46] at hds hkf
        have hdot : (rk s (q + 1)).dot = true := by rw [rk_succ s q hlt, rstep, if_pos h46]
        have HS : Hid (ds s (q + 1) = ds s q ∧ kf s (q + 1) = kf s q ∧ (rk s (q + 1)).dot = true) := ⟨hds, hkf, hdot⟩
        clear hds hkf hdot hok h46
        generalize kf s q = kq at *
        generalize (rk s q).dot = dq at *
        go_wp2_with fail
        go_roundg (s.size - (q + 1))
        case measure => omega
        case rel =>
          obtain ⟨e1, e2, e3⟩ := unhide HS
          exact ⟨q + 1, _, rfl, rfl, by omega, rfl, by rw [e2], by rw [e3], by rw [e1]; exact unhide hrel⟩
      · have y46 : (((s[q].toNat : Nat) : Int) == 46) = false := beq_eq_false_iff_ne.2 (by omega)
        rw [if_neg h46] at hds hkf
        have hdot : (rk s (q + 1)).dot = (rk s q).dot := by
          rw [rk_succ s q hlt]
          unfold rstep
          rw [if_neg h46]
          split
          · rfl
          · split
            · rfl
            · split <;> rfl
        have HS : Hid (ds s (q + 1) = ds s q ++ [s[q]] ∧ kf s (q + 1) = (if (rk s q).dot then kf s q + 1 else kf s q) ∧ (rk s (q + 1)).dot = (rk s q).dot) := ⟨hds, hkf, hdot⟩
        clear hds hkf hdot hok h46
        have hdl := ds_len s q
        obtain ⟨ho, hbel⟩ := unhide hrel
        have ho' : wr.ownsRow w1.heap.size 5 1 v8 (ds s q).length (Lib.byteCells (ds s q)) := ho
        have hws := hbel.size
        clear hrel ho
        generalize kf s q = kq at *
        generalize (rk s q).dot = dq at *
        go_wp2_with (first | (at_builtin; refine wpList_append_own _ rfl _ _ 27 rfl w1.heap.size 5 i0 (.int .u8 0) 1 1 Tryd.underlying27 hi hz0 hz1 hz2 rfl (by decide) _ _ _ rfl (ho'.alloc _) ⟨wr.heap.size, 0, none⟩ 1 1 [.int .u8 s[q].toNat] rfl rfl ?d1A ?d2A ?d3A ?d4A ?d5A ?_))
        case d1A => exact cell_one_new _ _ _
        case d2A => intro u hu; simp at hu; subst hu; rfl
        case d3A => unfold maxLen; omega
        case d4A => omega
        case d5A => simp; omega
        intro v5 w6 hown5 hgrow5 _
        have HO6 : Hid (Owns w1.heap.size v5 (ds s q ++ [s[q]]) w6 ∧ Below w1.heap.size w1 w6) := by
          refine ⟨Owns.app (m := [s[q]]) hown5, (hbel.trans ((Below.refl _ _).alloc hws _)).grown hgrow5 (by simp; omega) (fun k hk => own_ge ho' hk)⟩
        clear hown5 hgrow5 ho' hbel
        cases dq
        · go_wp2_with fail
          go_roundg (s.size - (q + 1))
          case measure => omega
          case rel =>
            obtain ⟨e1, e2, e3⟩ := unhide HS
            exact ⟨q + 1, _, rfl, rfl, by omega, rfl, by rw [e2]; rfl, by rw [e3], by rw [e1]; exact unhide HO6⟩
        · go_wp2_with fail
          go_roundg (s.size - (q + 1))
          case measure => omega
          case rel =>
            obtain ⟨e1, e2, e3⟩ := unhide HS
            exact ⟨q + 1, _, rfl, rfl, by omega, rfl, by rw [e2]; rfl, by rw [e3], by rw [e1]; exact unhide HO6⟩
    · obtain rfl : q = s.size := by omega
      obtain ⟨ho, hbel⟩ := unhide hrel
      clear hrel
      obtain ⟨g, cap, hv, hcap, hcells⟩ := ho.open' (by rw [(unhide HX).len]; exact (unhide HX).n1)
      rw [(unhide HX).len] at hv hcap hcells
      rw [(unhide HX).kf] at hkb ⊢
      have hcD : ∀ j, j < N → wr.cell? ⟨g, j, none⟩ = some (.int .u8 (D j)) := fun j hj => by rw [hcells j hj, (unhide HX).eD]
      have HCD := hide hcD
      have HBL := hide hbel
      have hNb : N ≤ 1048576 := by have := ds_len s s.size; rw [(unhide HX).len] at this; omega
      subst hv
      clear hcD hcells ho hbel
      generalize (rk s s.size).dot = dq at *
      have hk0N := (unhide HX).k0
      go_wp2_with fail
      go_loopg [8, 9] K0 (fun t v kv wx => wr = wx ∧ ∃ L k : Nat, v = .slice (some ⟨g, 0, none⟩) L cap ∧ kv = .int .i64 k ∧ k = t ∧ L ≤ N ∧ k ≤ L ∧ Hid (N - L = K0 - k ∧ k ≤ K0 ∧ ∀ i, L ≤ i → i < N → D i = 48))
      case atStart => exact ⟨rfl, N, K0, rfl, rfl, rfl, by omega, by omega, by omega, by omega, fun i a b => absurd a (by omega)⟩
      case round =>
        obtain ⟨rfl, L, k, rfl, rfl, rfl, hLN, hkL, HL⟩ := hrel
        by_cases hkp : 1 ≤ k
        · have hkd : decide (0 < k) = true := decide_eq_true (by omega)
          obtain ⟨L1, hL1⟩ : ∃ L1 : Nat, (L : Int) - 1 = (L1 : Int) := ⟨L - 1, by omega⟩
          have hL1b : L1 < L := by omega
          have hL1c : L1 ≤ cap := by omega
          have hcl := unhide HCD L1 (by omega)
          have hdl2 := (unhide HX).dg L1 (by omega)
          obtain ⟨x, hx⟩ : ∃ x, D L1 = x := ⟨_, rfl⟩
          rw [hx] at hcl hdl2
          by_cases hx8 : x = 48
          · have y48 : ((x : Int) == 48) = true := beq_iff_eq.2 (by omega)
            obtain ⟨k1, hk1⟩ : ∃ k1 : Nat, (k : Int) - 1 = (k1 : Int) := ⟨k - 1, by omega⟩
            have HR : Hid (N - L1 = K0 - k1 ∧ k1 ≤ K0 ∧ ∀ i, L1 ≤ i → i < N → D i = 48) := by
              obtain ⟨l1, l2, l3⟩ := unhide HL
              refine ⟨by omega, by omega, fun i a b => ?_⟩
              by_cases e : i = L1
              · rw [e, hx]; exact hx8
              · exact l3 i (by omega) b
            clear hx hx8 hdl2 HL
            go_wp2_with fail
            go_roundg k1
            case measure => omega
            case rel => exact ⟨rfl, L1, k1, rfl, rfl, rfl, by omega, by omega, unhide HR⟩
          · as_aux_lemma =>
            have y48 : ((x : Int) == 48) = false := beq_eq_false_iff_ne.2 (by omega)
            have hk0 : ((k : Int) == 0) = false := beq_eq_false_iff_ne.2 (by omega)
            have HNZ : Hid (¬ D (L - 1) = 48) := by rw [show L - 1 = L1 by omega, hx]; exact hx8
            clear hx hx8 hdl2
            go_wp2_with fail
            clear hcl y48 hk0 hkd
            go_loopg [14] L (fun t lo wx => wr = wx ∧ ∃ j : Nat, lo = .int .i64 j ∧ j ≤ L ∧ t = L - j ∧ Hid (∀ i, i < j → D i = 48))
            case atStart => exact ⟨rfl, 0, rfl, by omega, by omega, fun i hi => absurd hi (by omega)⟩
            case round =>
              obtain ⟨rfl, j, rfl, hjL, rfl, hrel⟩ := hrel
              by_cases hjl : j < L
              · have hjd : decide (j < L) = true := decide_eq_true hjl
                have hcj := unhide HCD j (by omega)
                have hdj := (unhide HX).dg j (by omega)
                obtain ⟨x, hx⟩ : ∃ x, D j = x := ⟨_, rfl⟩
                rw [hx] at hcj hdj
                by_cases hx8 : x = 48
                · have y48 : ((x : Int) == 48) = true := beq_iff_eq.2 (by omega)
                  have HR : Hid (∀ i, i < j + 1 → D i = 48) := fun i hi => by
                    by_cases e : i = j
                    · rw [e, hx]; exact hx8
                    · exact unhide hrel i (by omega)
                  clear hx hx8 hdj hrel
                  go_wp2_with fail
                  go_roundg (L - (j + 1))
                  case measure => omega
                  case rel => exact ⟨rfl, j + 1, rfl, by omega, rfl, unhide HR⟩
                · as_aux_lemma =>
                  have y48 : ((x : Int) == 48) = false := beq_eq_false_iff_ne.2 (by omega)
                  have hjl' : ((j : Int) == (L : Int)) = false := beq_eq_false_iff_ne.2 (by omega)
                  have h0 : num D j = 0 := by
                    have := num_zeros (D := D) 0 j (fun i _ hi => unhide hrel i (by omega))
                    rw [Nat.zero_add] at this
                    rw [this]; simp [num]
                  have hML := num_split (D := D) j (L - j) (fun i hi => (unhide HX).dg i (by omega))
                  rw [Nat.add_sub_cancel' (by omega), h0] at hML
                  have hMp : 0 < num D L := by
                    have h1 := num_split (D := D) (j + 1) (L - (j + 1)) (fun i hi => (unhide HX).dg i (by omega))
                    rw [Nat.add_sub_cancel' (by omega)] at h1
                    have h2 : 1 ≤ num D (j + 1) := by
                      show 1 ≤ num D j * 10 + (D j - 48)
                      rw [hx]; omega
                    have h3 : 1 * 10 ^ (L - (j + 1)) ≤ num D (j + 1) * 10 ^ (L - (j + 1)) := Nat.mul_le_mul_right _ h2
                    have h4 : 0 < 10 ^ (L - (j + 1)) := Nat.pow_pos (by omega)
                    omega
                  obtain ⟨sg, hsg⟩ : ∃ sg : Nat, (L : Int) - (j : Int) = (sg : Int) := ⟨L - j, by omega⟩
                  have HJ : Hid (num D j = 0 ∧ num D L < 10 ^ sg ∧ 0 < num D L ∧ sg = L - j) := ⟨h0, by rw [show sg = L - j by omega]; simpa using hML.2, hMp, by omega⟩
                  have hsgb : sg ≤ 1048576 := by omega
                  clear h0 hML hMp hx hx8 hdj hrel
                  by_cases h15 : 15 < sg
                  · have h15' : decide (15 < sg) = true := decide_eq_true h15
                    go_wp2_with fail
                    go_ret
                    exact ⟨rfl, unhide HBL⟩
                  · have h15' : decide (15 < sg) = false := decide_eq_false h15
                    go_wp2_with fail
                    clear hcj y48 hjl' hjd
                    go_loopg [16, 17] (L - j) (fun t m i wx => wr = wx ∧ ∃ q mm : Nat, i = .int .i64 q ∧ m = .int .u64 mm ∧ j ≤ q ∧ q ≤ L ∧ t = L - q ∧ mm < 1000000000000000 ∧ Hid (mm = num D q))
                    case atStart => exact ⟨rfl, j, 0, rfl, rfl, by omega, by omega, rfl, by omega, (unhide HJ).1.symm⟩
                    case round =>
                      obtain ⟨rfl, q, mm, rfl, rfl, hq1, hq2, rfl, hmm, hrel⟩ := hrel
                      by_cases hql : q < L
                      · have hqd : decide (q < L) = true := decide_eq_true hql
                        have hcq := unhide HCD q (by omega)
                        have hdq := (unhide HX).dg q (by omega)
                        obtain ⟨x2, hx2⟩ : ∃ x2, D q = x2 := ⟨_, rfl⟩
                        rw [hx2] at hcq hdq
                        have hxa := hdq.1
                        have hxb := hdq.2
                        have hnx : num D (q + 1) = mm * 10 + (x2 - 48) := by
                          show num D q * 10 + (D q - 48) = _
                          rw [hx2, unhide hrel]
                        have hlt : mm * 10 + (x2 - 48) < 1000000000000000 := by
                          have h1 := num_split (D := D) j (q + 1 - j) (fun i hi => (unhide HX).dg i (by omega))
                          rw [Nat.add_sub_cancel' (by omega), (unhide HJ).1] at h1
                          have h2 : 10 ^ (q + 1 - j) ≤ 10 ^ 15 := Nat.pow_le_pow_right (by omega) (by have := (unhide HJ).2.2.2; omega)
                          omega
                        have HN := hide hnx
                        clear hx2 hdq hnx hrel
                        go_wp2_with fail
                        go_roundg (L - (q + 1))
                        case measure => omega
                        case rel => exact ⟨rfl, q + 1, mm * 10 + (x2 - 48), rfl, by congr 2; omega, by omega, by omega, rfl, hlt, (unhide HN).symm⟩
                      · as_aux_lemma =>
                        have hqd : decide (q < L) = false := decide_eq_false hql
                        have hqL : q = L := by omega
                        have hM : mm = num D L := by rw [← hqL]; exact unhide hrel
                        have HM : Hid (mm = num D L ∧ 0 < mm) := ⟨hM, by rw [hM]; exact (unhide HJ).2.2.1⟩
                        have HM15 : Hid (mm < 10 ^ sg) := by rw [hM]; exact (unhide HJ).2.1
                        clear hqL hM hrel
                        have hkp' : decide (0 < k) = true := decide_eq_true (by omega)
                        by_cases h22 : 22 < k
                        · have h22' : decide (22 < k) = true := decide_eq_true h22
                          go_wp2_with fail
                          go_ret
                          exact ⟨rfl, unhide HBL⟩
                        · have h22' : decide (22 < k) = false := decide_eq_false h22
                          obtain ⟨r, hr, hord⟩ := (unhide HX).x1 mm k (unhide HM).2 hmm hkp (by omega) (by have := unhide HL; omega) (by
                            obtain ⟨l1, l2, l3⟩ := unhide HL
                            have := num_zeros (D := D) L (N - L) (fun i a b => l3 i a (by omega))
                            rw [Nat.add_sub_cancel' (by omega)] at this
                            rw [this, (unhide HM).1, show N - L = K0 - k by omega])
                          have hqq := fun w => run_float_arith (P := Tryd.prog) w .quo 23 .f64 (floatOfInt .f64 mm) (w10 k) r hr
                          clear hr
                          go_wp2_with fail
                          refine (c10 k _ (by omega)).mono ?_
                          rintro e w7 ⟨rfl, rfl⟩
                          go_wp2_with fail
                          go_ret
                          exact ⟨rfl, unhide HBL⟩
              · exfalso
                have := unhide hrel (L - 1) (by omega)
                exact unhide HNZ this
        · as_aux_lemma =>
          have hk00 : k = 0 := by omega
          subst hk00
          go_wp2_with fail
          go_loopg [8, 13] L (fun t v ev wx => wr = wx ∧ ∃ L2 E : Nat, v = .slice (some ⟨g, 0, none⟩) L2 cap ∧ ev = .int .i64 E ∧ L2 = t ∧ L2 ≤ L ∧ E ≤ 1048576 ∧ Hid (N - L2 = K0 + E ∧ L2 ≤ N ∧ ∀ i, L2 ≤ i → i < N → D i = 48))
          case atStart => exact ⟨rfl, L, 0, rfl, rfl, rfl, by omega, by omega, by have := unhide HL; omega, by omega, (unhide HL).2.2⟩
          case round =>
            clear HL
            obtain ⟨rfl, L, E, rfl, rfl, rfl, hLL, hEb, HL⟩ := hrel
            rename_i Lold _ _ _ _ _ _
            by_cases hLp : 1 ≤ L
            · have hkd : decide (0 < L) = true := decide_eq_true (by omega)
              obtain ⟨L1, hL1⟩ : ∃ L1 : Nat, (L : Int) - 1 = (L1 : Int) := ⟨L - 1, by omega⟩
              have hL1b : L1 < L := by omega
              have hLN2 : L ≤ N := (unhide HL).2.1
              have hL1c : L1 ≤ cap := by omega
              have hcl := unhide HCD L1 (by omega)
              have hdl2 := (unhide HX).dg L1 (by omega)
              obtain ⟨x, hx⟩ : ∃ x, D L1 = x := ⟨_, rfl⟩
              rw [hx] at hcl hdl2
              by_cases hx8 : x = 48
              · have y48 : ((x : Int) == 48) = true := beq_iff_eq.2 (by omega)
                have hE1 : E + 1 ≤ 1048576 := by have := (unhide HL).1; omega
                have HR : Hid (N - L1 = K0 + (E + 1) ∧ L1 ≤ N ∧ ∀ i, L1 ≤ i → i < N → D i = 48) := by
                  obtain ⟨l1, l2, l3⟩ := unhide HL
                  refine ⟨by omega, by omega, fun i a b => ?_⟩
                  by_cases e : i = L1
                  · rw [e, hx]; exact hx8
                  · exact l3 i (by omega) b
                clear hx hx8 hdl2 HL
                go_wp2_with fail
                go_roundg L1
                case measure => omega
                case rel => exact ⟨rfl, L1, E + 1, rfl, rfl, rfl, by omega, by omega, unhide HR⟩
              · as_aux_lemma =>
                have y48 : ((x : Int) == 48) = false := beq_eq_false_iff_ne.2 (by omega)
                have HNZ : Hid (¬ D (L - 1) = 48) := by rw [show L - 1 = L1 by omega, hx]; exact hx8
                clear hx hx8 hdl2
                go_wp2_with fail
                clear hcl y48 hkd
                go_loopg [14] L (fun t lo wx => wr = wx ∧ ∃ j : Nat, lo = .int .i64 j ∧ j ≤ L ∧ t = L - j ∧ Hid (∀ i, i < j → D i = 48))
                case atStart => exact ⟨rfl, 0, rfl, by omega, by omega, fun i hi => absurd hi (by omega)⟩
                case round =>
                  obtain ⟨rfl, j, rfl, hjL, rfl, hrel⟩ := hrel
                  by_cases hjl : j < L
                  · have hjd : decide (j < L) = true := decide_eq_true hjl
                    have hcj := unhide HCD j (by omega)
                    have hdj := (unhide HX).dg j (by omega)
                    obtain ⟨x, hx⟩ : ∃ x, D j = x := ⟨_, rfl⟩
                    rw [hx] at hcj hdj
                    by_cases hx8 : x = 48
                    · have y48 : ((x : Int) == 48) = true := beq_iff_eq.2 (by omega)
                      have HR : Hid (∀ i, i < j + 1 → D i = 48) := fun i hi => by
                        by_cases e : i = j
                        · rw [e, hx]; exact hx8
                        · exact unhide hrel i (by omega)
                      clear hx hx8 hdj hrel
                      go_wp2_with fail
                      go_roundg (L - (j + 1))
                      case measure => omega
                      case rel => exact ⟨rfl, j + 1, rfl, by omega, rfl, unhide HR⟩
                    · as_aux_lemma =>
                      have y48 : ((x : Int) == 48) = false := beq_eq_false_iff_ne.2 (by omega)
                      have hjl' : ((j : Int) == (L : Int)) = false := beq_eq_false_iff_ne.2 (by omega)
                      have h0 : num D j = 0 := by
                        have := num_zeros (D := D) 0 j (fun i _ hi => unhide hrel i (by omega))
                        rw [Nat.zero_add] at this
                        rw [this]; simp [num]
                      have hML := num_split (D := D) j (L - j) (fun i hi => (unhide HX).dg i (by omega))
                      rw [Nat.add_sub_cancel' (by omega), h0] at hML
                      have hMp : 0 < num D L := by
                        have h1 := num_split (D := D) (j + 1) (L - (j + 1)) (fun i hi => (unhide HX).dg i (by omega))
                        rw [Nat.add_sub_cancel' (by omega)] at h1
                        have h2 : 1 ≤ num D (j + 1) := by
                          show 1 ≤ num D j * 10 + (D j - 48)
                          rw [hx]; omega
                        have h3 : 1 * 10 ^ (L - (j + 1)) ≤ num D (j + 1) * 10 ^ (L - (j + 1)) := Nat.mul_le_mul_right _ h2
                        have h4 : 0 < 10 ^ (L - (j + 1)) := Nat.pow_pos (by omega)
                        omega
                      obtain ⟨sg, hsg⟩ : ∃ sg : Nat, (L : Int) - (j : Int) = (sg : Int) := ⟨L - j, by omega⟩
                      have HJ : Hid (num D j = 0 ∧ num D L < 10 ^ sg ∧ 0 < num D L ∧ sg = L - j) := ⟨h0, by rw [show sg = L - j by omega]; simpa using hML.2, hMp, by omega⟩
                      have hsgb : sg ≤ 1048576 := by omega
                      clear h0 hML hMp hx hx8 hdj hrel
                      by_cases h15 : 15 < sg
                      · have h15' : decide (15 < sg) = true := decide_eq_true h15
                        go_wp2_with fail
                        go_ret
                        exact ⟨rfl, unhide HBL⟩
                      · have h15' : decide (15 < sg) = false := decide_eq_false h15
                        go_wp2_with fail
                        clear hcj y48 hjl' hjd
                        go_loopg [16, 17] (L - j) (fun t m i wx => wr = wx ∧ ∃ q mm : Nat, i = .int .i64 q ∧ m = .int .u64 mm ∧ j ≤ q ∧ q ≤ L ∧ t = L - q ∧ mm < 1000000000000000 ∧ Hid (mm = num D q))
                        case atStart => exact ⟨rfl, j, 0, rfl, rfl, by omega, by omega, rfl, by omega, (unhide HJ).1.symm⟩
                        case round =>
                          obtain ⟨rfl, q, mm, rfl, rfl, hq1, hq2, rfl, hmm, hrel⟩ := hrel
                          by_cases hql : q < L
                          · have hqd : decide (q < L) = true := decide_eq_true hql
                            have hcq := unhide HCD q (by omega)
                            have hdq := (unhide HX).dg q (by omega)
                            obtain ⟨x2, hx2⟩ : ∃ x2, D q = x2 := ⟨_, rfl⟩
                            rw [hx2] at hcq hdq
                            have hxa := hdq.1
                            have hxb := hdq.2
                            have hnx : num D (q + 1) = mm * 10 + (x2 - 48) := by
                              show num D q * 10 + (D q - 48) = _
                              rw [hx2, unhide hrel]
                            have hlt : mm * 10 + (x2 - 48) < 1000000000000000 := by
                              have h1 := num_split (D := D) j (q + 1 - j) (fun i hi => (unhide HX).dg i (by omega))
                              rw [Nat.add_sub_cancel' (by omega), (unhide HJ).1] at h1
                              have h2 : 10 ^ (q + 1 - j) ≤ 10 ^ 15 := Nat.pow_le_pow_right (by omega) (by have := (unhide HJ).2.2.2; omega)
                              omega
                            have HN := hide hnx
                            clear hx2 hdq hnx hrel
                            go_wp2_with fail
                            go_roundg (L - (q + 1))
                            case measure => omega
                            case rel => exact ⟨rfl, q + 1, mm * 10 + (x2 - 48), rfl, by congr 2; omega, by omega, by omega, rfl, hlt, (unhide HN).symm⟩
                          · as_aux_lemma =>
                            have hqd : decide (q < L) = false := decide_eq_false hql
                            have hqL : q = L := by omega
                            have hM : mm = num D L := by rw [← hqL]; exact unhide hrel
                            have HM : Hid (mm = num D L ∧ 0 < mm) := ⟨hM, by rw [hM]; exact (unhide HJ).2.2.1⟩
                            have HM15 : Hid (mm < 10 ^ sg) := by rw [hM]; exact (unhide HJ).2.1
                            clear hqL hM hrel
                            by_cases h22 : 22 < E
                            · have h22' : decide (22 < E) = true := decide_eq_true h22
                              by_cases hs15 : 15 < sg + (E - 22)
                              · have hs15' : (15 : Int) < (sg : Int) + ((E : Int) - 22) := by omega
                                go_wp2_with fail
                                go_ret
                                exact ⟨rfl, unhide HBL⟩
                              · have hs15' : ¬ (15 : Int) < (sg : Int) + ((E : Int) - 22) := by omega
                                go_wp2_with fail
                                go_loopg [13, 16] (E - 22) (fun t e m wx => wr = wx ∧ ∃ e1 m1 : Nat, e = .int .i64 e1 ∧ m = .int .u64 m1 ∧ 22 ≤ e1 ∧ e1 ≤ E ∧ t = e1 - 22 ∧ m1 < 1000000000000000 ∧ Hid (m1 = mm * 10 ^ (E - e1)))
                                case atStart => exact ⟨rfl, E, mm, rfl, rfl, by omega, by omega, by omega, hmm, (show mm = mm * 10 ^ (E - E) by rw [Nat.sub_self]; simp)⟩
                                case round =>
                                  obtain ⟨rfl, e1, m1, rfl, rfl, he1, he2, rfl, hm1, hrel⟩ := hrel
                                  by_cases he : 22 < e1
                                  · have hed : decide (22 < e1) = true := decide_eq_true he
                                    have hnx : m1 * 10 = mm * 10 ^ (E - (e1 - 1)) := by
                                      rw [unhide hrel, Nat.mul_assoc, ← Nat.pow_succ]; congr 2; omega
                                    have hlt : m1 * 10 < 1000000000000000 := by
                                      have h1 : mm * 10 ^ (E - (e1 - 1)) < 10 ^ sg * 10 ^ (E - (e1 - 1)) := Nat.mul_lt_mul_of_pos_right (unhide HM15) (Nat.pow_pos (by omega))
                                      rw [← Nat.pow_add] at h1
                                      have h2 : 10 ^ (sg + (E - (e1 - 1))) ≤ 10 ^ 15 := Nat.pow_le_pow_right (by omega) (by omega)
                                      omega
                                    obtain ⟨e2, he2'⟩ : ∃ e2 : Nat, (e1 : Int) - 1 = (e2 : Int) := ⟨e1 - 1, by omega⟩
                                    have HN : Hid (m1 * 10 = mm * 10 ^ (E - e2)) := by rw [show e2 = e1 - 1 by omega]; exact hnx
                                    clear hnx hrel
                                    go_wp2_with fail
                                    go_roundg (e2 - 22)
                                    case measure => omega
                                    case rel => exact ⟨rfl, e2, m1 * 10, rfl, rfl, by omega, by omega, rfl, hlt, unhide HN⟩
                                  · have hed : decide (22 < e1) = false := decide_eq_false he
                                    have e22 : e1 = 22 := by omega
                                    subst e22
                                    have hm1p : 0 < m1 := by rw [unhide hrel]; exact Nat.mul_pos (unhide HM).2 (Nat.pow_pos (by omega))
                                    obtain ⟨r, hr, hord⟩ := (unhide HX).x2 m1 22 hm1p hm1 (by omega) (by
                                      obtain ⟨l1, l2, l3⟩ := unhide HL
                                      have := num_zeros (D := D) L (N - L) (fun i a b => l3 i a (by omega))
                                      rw [Nat.add_sub_cancel' (by omega)] at this
                                      rw [this, ← (unhide HM).1, unhide hrel, Nat.mul_assoc, ← Nat.pow_add]; congr 2; omega)
                                    have hqq := fun w => run_float_arith (P := Tryd.prog) w .mul 23 .f64 (floatOfInt .f64 m1) (w10 22) r hr
                                    clear hr hrel
                                    go_wp2_with fail
                                    refine (c10 22 _ (by omega)).mono ?_
                                    rintro e w7 ⟨rfl, rfl⟩
                                    go_wp2_with fail
                                    go_ret
                                    exact ⟨rfl, unhide HBL⟩
                            · have h22' : decide (22 < E) = false := decide_eq_false h22
                              obtain ⟨r, hr, hord⟩ := (unhide HX).x2 mm E (unhide HM).2 hmm (by omega) (by
                                obtain ⟨l1, l2, l3⟩ := unhide HL
                                have := num_zeros (D := D) L (N - L) (fun i a b => l3 i a (by omega))
                                rw [Nat.add_sub_cancel' (by omega)] at this
                                rw [this, (unhide HM).1, show N - L = K0 + E by omega])
                              have hqq := fun w => run_float_arith (P := Tryd.prog) w .mul 23 .f64 (floatOfInt .f64 mm) (w10 E) r hr
                              clear hr
                              go_wp2_with fail
                              refine (c10 E _ (by omega)).mono ?_
                              rintro e w7 ⟨rfl, rfl⟩
                              go_wp2_with fail
                              go_ret
                              exact ⟨rfl, unhide HBL⟩
                  · exfalso
                    have := unhide hrel (L - 1) (by omega)
                    exact unhide HNZ this
            · as_aux_lemma =>
              have hL0 : L = 0 := by omega
              subst hL0
              have hb0 : b = 0 := (unhide HX).x0 (by
                have := num_zeros (D := D) 0 N (fun i a b => (unhide HL).2.2 i a (by omega))
                rw [Nat.zero_add] at this
                rw [this]; simp [num])
              subst hb0
              have hc1 : FloatKind.f64.format.order 0 0 = some .eq := by decide +kernel
              have hc2 : FloatKind.f64.format.order 9218868437227405312 0 = some .gt := by decide +kernel
              have hqq := fun w => run_float_arith (P := Tryd.prog) w .quo 23 .f64 4607182418800017408 0 9218868437227405312 (by decide +kernel)
              go_wp2_with fail
              go_loopg [14] 0 (fun t lo wx => wr = wx ∧ lo = .int .i64 0)
              case atStart => exact ⟨rfl, rfl⟩
              case round =>
                obtain ⟨rfl, rfl⟩ := hrel
                go_wp2_with fail
                go_ret
                exact ⟨rfl, unhide HBL⟩
end Go.Proofs.Qxb6600776aDoor
