import Derived.Test.Qxb6600776aDoorExact
import Derived.Test.Qxb6600776aDoorPlain
import Derived.WalkMore
set_option linter.unusedSimpArgs false
set_option linter.unusedVariables false
namespace Go.Proofs.Qxb6600776aDoor
open Go.RowKit Go.Shelf

/-- A byte of the decimal grammar. -/
def okB (c : UInt8) : Bool := c == 46 || (decide (48 ≤ c.toNat) && decide (c.toNat ≤ 57))
/-- The string is of the grammar's bytes, at most one dot. -/
def Gram (s : ByteArray) : Prop := ∀ k (h : k < s.size), s[k].toNat = 46 ∨ (48 ≤ s[k].toNat ∧ s[k].toNat ≤ 57)

set_option maxRecDepth 100000 in
set_option maxHeartbeats 400000 in
theorem c40 (s : ByteArray) (w : World) (hs : s.size ≤ 1048576) (hg : Gram s) :
    Calls Tryd.prog 40 #[.string s] w fun r w' => r = .returned (.tuple #[.float .f64 0, .int .i64 0, .bool false]) ∧ w' = w := by
  by_cases h0 : s.size = 0
  · have hz : ((s.size : Int) == 0) = true := beq_iff_eq.2 (by omega)
    go_enter Tryd.func40, Tryd.ntmps40
    go_wp2
    go_ret3
    exact ⟨rfl, rfl⟩
  · have hz : ((s.size : Int) == 0) = false := beq_eq_false_iff_ne.2 (by omega)
    have hp : 0 < s.size := by omega
    have hb := hg 0 hp
    have e1 : (((s[0].toNat : Nat) : Int) == 43) = false := beq_eq_false_iff_ne.2 (by omega)
    have e2 : (((s[0].toNat : Nat) : Int) == 45) = false := beq_eq_false_iff_ne.2 (by omega)
    have e3 : (((s[0].toNat : Nat) : Int) == 105) = false := beq_eq_false_iff_ne.2 (by omega)
    have e4 : (((s[0].toNat : Nat) : Int) == 73) = false := beq_eq_false_iff_ne.2 (by omega)
    have e5 : (((s[0].toNat : Nat) : Int) == 110) = false := beq_eq_false_iff_ne.2 (by omega)
    have e6 : (((s[0].toNat : Nat) : Int) == 78) = false := beq_eq_false_iff_ne.2 (by omega)
    go_enter Tryd.func40, Tryd.ntmps40
    go_wp2
    go_ret3
    exact ⟨rfl, rfl⟩

theorem results_tmp7 {fn : Func} {a b c d e f g : Tmp} (h : fn.results = #[.tmp a, .tmp b, .tmp c, .tmp d, .tmp e, .tmp f, .tmp g]) (tmps : Array Value) (P : Program) (w : World) :
    (results fn tmps).run P w = .ok (.tuple #[tmps.getD a undef, tmps.getD b undef, tmps.getD c undef, tmps.getD d undef, tmps.getD e undef, tmps.getD f undef, tmps.getD g undef]) w := by
  simp [results, h]
theorem get_eq (s : ByteArray) (k : Nat) (h : k < s.size) : s.data.toList[k]'(by simpa using h) = s[k] := rfl
/-- At most one dot. -/
def OneDot (s : ByteArray) : Prop := ∀ j k (hj : j < s.size) (hk : k < s.size), s[j].toNat = 46 → s[k].toNat = 46 → j = k
theorem gram_ok {s : ByteArray} (h : Gram s) : ∀ k (hk : k < s.data.toList.length), okc s.data.toList[k] := fun k hk => h k (by simpa using hk)
/-- The state behind k bytes. -/
def rk (s : ByteArray) (k : Nat) : RS := rs (s.data.toList.take k)
theorem rk_succ (s : ByteArray) (k : Nat) (h : k < s.size) : rk s (k + 1) = rstep (rk s k) s[k] := rs_take _ _ (by simpa using h)
theorem rk_inv {s : ByteArray} (h : Gram s) (k : Nat) (hk : k ≤ s.size) : RInv (rk s k) k := rinv_take _ (gram_ok h) k (by simpa using hk)
theorem rk_dot {s : ByteArray} (h : OneDot s) (k : Nat) (hk : k < s.size) (hc : s[k].toNat = 46) : (rk s k).dot = false := by
  cases hd : (rk s k).dot with
  | false => rfl
  | true =>
    obtain ⟨j, hj, hlt, e⟩ := dot_take s.data.toList k (by simp; omega) hd
    have := h j k (by simpa using hj) hk e hc
    omega
theorem lower_all : ∀ c : Fin 256, (c.val = 46 ∨ (48 ≤ c.val ∧ c.val ≤ 57)) → (bits BinOp.or IntKind.u8 (c.val : Int) 32 == 120) = false := by decide +kernel
theorem lower_ok (c : UInt8) (h : c.toNat = 46 ∨ (48 ≤ c.toNat ∧ c.toNat ≤ 57)) : (bits BinOp.or IntKind.u8 (c.toNat : Int) 32 == 120) = false := lower_all ⟨c.toNat, UInt8.toNat_lt c⟩ h
def rexp (r : RS) : Int := if r.m = 0 then 0 else (if r.dot then r.dp else r.nd) - r.nm

set_option maxRecDepth 100000 in
set_option maxHeartbeats 4000000 in
theorem c41 (s : ByteArray) (w : World) (hs : s.size ≤ 1048576) (hg : Gram s) (ho : OneDot s) (hdig : (rk s s.size).dig = true) :
    Calls Tryd.prog 41 #[.string s] w fun r w' => r = .returned (.tuple #[.int .u64 (rk s s.size).m, .int .i64 (rexp (rk s s.size)), .bool false, .bool (rk s s.size).tr, .bool false, .int .i64 s.size, .bool true]) ∧ w' = w := by
  have h0 : 0 < s.size := by
    by_cases h : s.size = 0
    · rw [h] at hdig; cases hdig
    · omega
  have hb := hg 0 h0
  have e1 : (((s[0].toNat : Nat) : Int) == 43) = false := beq_eq_false_iff_ne.2 (by omega)
  have e2 : (((s[0].toNat : Nat) : Int) == 45) = false := beq_eq_false_iff_ne.2 (by omega)
  have HG := hide hg
  have HO := hide ho
  have HD := hide hdig
  clear hg ho hdig hb
  go_enter Tryd.func41, Tryd.ntmps41
  have hne : ¬ s = ByteArray.empty := fun e => by rw [e] at h0; exact absurd h0 (by decide)
  by_cases h2 : 2 < s.size
  · by_cases h3 : s[0].toNat = 48
    · have h1 : 1 < s.size := by omega
      have hx : (bits BinOp.or IntKind.u8 (s[1].toNat : Int) 32 == 120) = false := lower_ok _ (unhide HG 1 h1)
      have e0 : (((s[0].toNat : Nat) : Int) == 48) = true := beq_iff_eq.2 (by omega)
      have hl : (2 : Int) < s.size := by omega
      go_wp2
      go_step3
      go_wp2
      go_step3
      go_wp2
      clear e1 e2 hx e0 hl h1
      go_loop [2, 5, 7, 9, 13, 14, 15, 16, 17] (fun m tr i us dot dig nd nm dp => ∃ k : Nat, us = .bool false ∧ k ≤ s.size ∧ i = .int .i64 k ∧ m = .int .u64 (rk s k).m ∧ tr = .bool (rk s k).tr ∧ dot = .bool (rk s k).dot ∧ dig = .bool (rk s k).dig ∧ nd = .int .i64 (rk s k).nd ∧ nm = .int .i64 (rk s k).nm ∧ dp = .int .i64 (rk s k).dp) (fun _ _ i _ _ _ _ _ _ => s.size - (intOf i).toNat)
      case atStart => exact ⟨0, rfl, Nat.zero_le _, rfl, rfl, rfl, rfl, rfl, rfl, rfl, rfl⟩
      case round =>
        obtain ⟨k, rfl, hk, rfl, rfl, rfl, rfl, rfl, rfl, rfl, rfl⟩ := hrel
        have hI := rk_inv (unhide HG) k hk
        by_cases hlt : k < s.size
        · have hlti : (k : Int) < s.size := by omega
          have hN := rk_succ s k hlt
          have hok := unhide HG k hlt
          have hD := rk_dot (unhide HO) k hlt
          have n95 : (((s[k].toNat : Nat) : Int) == 95) = false := beq_eq_false_iff_ne.2 (by omega)
          obtain ⟨i1, i2, i3, i4, i5, i6⟩ := hI
          have hm19 : (rk s k).nm < 19 → (rk s k).m < 1000000000000000000 := fun h => by
            have : 10 ^ (rk s k).nm ≤ 10 ^ 18 := Nat.pow_le_pow_right (by decide) (by omega)
            omega
          unfold rstep at hN
          have h2N := hide hN
          clear hN i6
          generalize rk s k = R at *
          obtain ⟨m, nd, nm, dp, dot, dig, tr⟩ := R
          simp only at h2N hD hm19 i1 i2 i3 i4 i5
          by_cases c46 : s[k].toNat = 46
          · have hd0 := hD c46
            subst hd0
            have y46 : (((s[k].toNat : Nat) : Int) == 46) = true := beq_iff_eq.2 (by omega)
            have hN := unhide h2N
            rw [if_pos c46] at hN
            have h2N := hide hN
            clear hN hD hm19
            go_wp2
            go_round
            case rel => exact ⟨k + 1, rfl, by omega, by go_num, by rw [unhide h2N], by rw [unhide h2N], by rw [unhide h2N], by rw [unhide h2N], by rw [unhide h2N], by rw [unhide h2N], by rw [unhide h2N]⟩
            case measure => simp [intOf]; omega
          · have h48 : (48 : Int) ≤ (s[k].toNat : Nat) := by omega
            have h57 : ((s[k].toNat : Nat) : Int) ≤ 57 := by omega
            have y46 : (((s[k].toNat : Nat) : Int) == 46) = false := beq_eq_false_iff_ne.2 (by omega)
            have hN := unhide h2N
            rw [if_neg c46] at hN
            clear h2N hD
            by_cases cz : s[k].toNat = 48 ∧ nd = 0
            · obtain ⟨z1, z2⟩ := cz
              subst z2
              have y48 : (((s[k].toNat : Nat) : Int) == 48) = true := beq_iff_eq.2 (by omega)
              rw [if_pos ⟨z1, rfl⟩] at hN
              have h2N := hide hN
              clear hN hm19
              go_wp2
              go_round
              case rel => exact ⟨k + 1, rfl, by omega, by go_num, by rw [unhide h2N], by rw [unhide h2N], by rw [unhide h2N], by rw [unhide h2N], by rw [unhide h2N], by rw [unhide h2N], by rw [unhide h2N]⟩
              case measure => simp [intOf]; omega
            · rw [if_neg cz] at hN
              by_cases cn : nm < 19
              · have hm := hm19 cn
                have hni : (nm : Int) < 19 := by omega
                rw [if_pos cn] at hN
                have h2N := hide hN
                clear hN hm19
                by_cases c48 : s[k].toNat = 48
                · have y48 : (((s[k].toNat : Nat) : Int) == 48) = true := beq_iff_eq.2 (by omega)
                  have yn : ((nd : Int) == 0) = false := beq_eq_false_iff_ne.2 (by omega)
                  go_wp2
                  go_round
                  case rel => exact ⟨k + 1, rfl, by omega, by go_num, by rw [unhide h2N]; go_num, by rw [unhide h2N], by rw [unhide h2N], by rw [unhide h2N], by rw [unhide h2N]; go_num, by rw [unhide h2N]; go_num, by rw [unhide h2N]⟩
                  case measure => simp [intOf]; omega
                · have y48 : (((s[k].toNat : Nat) : Int) == 48) = false := beq_eq_false_iff_ne.2 (by omega)
                  go_wp2
                  go_round
                  case rel => exact ⟨k + 1, rfl, by omega, by go_num, by rw [unhide h2N]; go_num, by rw [unhide h2N], by rw [unhide h2N], by rw [unhide h2N], by rw [unhide h2N]; go_num, by rw [unhide h2N]; go_num, by rw [unhide h2N]⟩
                  case measure => simp [intOf]; omega
              · have hni : ¬ (nm : Int) < 19 := by omega
                rw [if_neg cn] at hN
                clear hm19
                by_cases c48 : s[k].toNat = 48
                · have y48 : (((s[k].toNat : Nat) : Int) == 48) = true := beq_iff_eq.2 (by omega)
                  have yn : ((nd : Int) == 0) = false := beq_eq_false_iff_ne.2 (by omega)
                  rw [if_pos c48] at hN
                  have h2N := hide hN
                  clear hN
                  go_wp2
                  go_round
                  case rel => exact ⟨k + 1, rfl, by omega, by go_num, by rw [unhide h2N], by rw [unhide h2N], by rw [unhide h2N], by rw [unhide h2N], by rw [unhide h2N]; go_num, by rw [unhide h2N], by rw [unhide h2N]⟩
                  case measure => simp [intOf]; omega
                · have y48 : (((s[k].toNat : Nat) : Int) == 48) = false := beq_eq_false_iff_ne.2 (by omega)
                  rw [if_neg c48] at hN
                  have h2N := hide hN
                  clear hN
                  go_wp2
                  go_round
                  case rel => exact ⟨k + 1, rfl, by omega, by go_num, by rw [unhide h2N], by rw [unhide h2N], by rw [unhide h2N], by rw [unhide h2N], by rw [unhide h2N]; go_num, by rw [unhide h2N], by rw [unhide h2N]⟩
                  case measure => simp [intOf]; omega
        · obtain rfl : k = s.size := by omega
          obtain ⟨i1, i2, i3, i4, i5, i6⟩ := hI
          have hdg := unhide HD
          clear i6 HD HG HO
          obtain ⟨R, hR⟩ : ∃ R, rk s s.size = R := ⟨_, rfl⟩
          rw [hR] at hdg i1 i2 i3 i4 i5
          simp only [hR]
          obtain ⟨m, nd, nm, dp, dot, dig, tr⟩ := R
          simp only at hdg i1 i2 i3 i4 i5 ⊢
          have HR := hide hR
          clear hR
          subst hdg
          by_cases m0 : m = 0
          · subst m0
            cases dot
            · go_wp2
              (try simp only [Exit.inBlock, Exit.then]); refine bodyPost_ret (results_tmp7 rfl _ _ _) rfl ?_
              exact ⟨by rw [unhide HR]; rfl, rfl⟩
            · go_wp2
              (try simp only [Exit.inBlock, Exit.then]); refine bodyPost_ret (results_tmp7 rfl _ _ _) rfl ?_
              exact ⟨by rw [unhide HR]; rfl, rfl⟩
          · have ym : ((m : Int) == 0) = false := beq_eq_false_iff_ne.2 (by omega)
            cases dot
            · go_wp2
              (try simp only [Exit.inBlock, Exit.then]); refine bodyPost_ret (results_tmp7 rfl _ _ _) rfl ?_
              exact ⟨by rw [unhide HR]; simp [rexp, m0], rfl⟩
            · go_wp2
              (try simp only [Exit.inBlock, Exit.then]); refine bodyPost_ret (results_tmp7 rfl _ _ _) rfl ?_
              exact ⟨by rw [unhide HR]; simp [rexp, m0], rfl⟩
    · have e0 : (((s[0].toNat : Nat) : Int) == 48) = false := beq_eq_false_iff_ne.2 (by omega)
      have hl : (2 : Int) < s.size := by omega
      go_wp2
      go_step3
      go_wp2
      go_step3
      go_wp2
      clear e1 e2 e0 hl
      go_loop [2, 5, 7, 9, 13, 14, 15, 16, 17] (fun m tr i us dot dig nd nm dp => ∃ k : Nat, us = .bool false ∧ k ≤ s.size ∧ i = .int .i64 k ∧ m = .int .u64 (rk s k).m ∧ tr = .bool (rk s k).tr ∧ dot = .bool (rk s k).dot ∧ dig = .bool (rk s k).dig ∧ nd = .int .i64 (rk s k).nd ∧ nm = .int .i64 (rk s k).nm ∧ dp = .int .i64 (rk s k).dp) (fun _ _ i _ _ _ _ _ _ => s.size - (intOf i).toNat)
      case atStart => exact ⟨0, rfl, Nat.zero_le _, rfl, rfl, rfl, rfl, rfl, rfl, rfl, rfl⟩
      case round =>
        obtain ⟨k, rfl, hk, rfl, rfl, rfl, rfl, rfl, rfl, rfl, rfl⟩ := hrel
        have hI := rk_inv (unhide HG) k hk
        by_cases hlt : k < s.size
        · have hlti : (k : Int) < s.size := by omega
          have hN := rk_succ s k hlt
          have hok := unhide HG k hlt
          have hD := rk_dot (unhide HO) k hlt
          have n95 : (((s[k].toNat : Nat) : Int) == 95) = false := beq_eq_false_iff_ne.2 (by omega)
          obtain ⟨i1, i2, i3, i4, i5, i6⟩ := hI
          have hm19 : (rk s k).nm < 19 → (rk s k).m < 1000000000000000000 := fun h => by
            have : 10 ^ (rk s k).nm ≤ 10 ^ 18 := Nat.pow_le_pow_right (by decide) (by omega)
            omega
          unfold rstep at hN
          have h2N := hide hN
          clear hN i6
          generalize rk s k = R at *
          obtain ⟨m, nd, nm, dp, dot, dig, tr⟩ := R
          simp only at h2N hD hm19 i1 i2 i3 i4 i5
          by_cases c46 : s[k].toNat = 46
          · have hd0 := hD c46
            subst hd0
            have y46 : (((s[k].toNat : Nat) : Int) == 46) = true := beq_iff_eq.2 (by omega)
            have hN := unhide h2N
            rw [if_pos c46] at hN
            have h2N := hide hN
            clear hN hD hm19
            go_wp2
            go_round
            case rel => exact ⟨k + 1, rfl, by omega, by go_num, by rw [unhide h2N], by rw [unhide h2N], by rw [unhide h2N], by rw [unhide h2N], by rw [unhide h2N], by rw [unhide h2N], by rw [unhide h2N]⟩
            case measure => simp [intOf]; omega
          · have h48 : (48 : Int) ≤ (s[k].toNat : Nat) := by omega
            have h57 : ((s[k].toNat : Nat) : Int) ≤ 57 := by omega
            have y46 : (((s[k].toNat : Nat) : Int) == 46) = false := beq_eq_false_iff_ne.2 (by omega)
            have hN := unhide h2N
            rw [if_neg c46] at hN
            clear h2N hD
            by_cases cz : s[k].toNat = 48 ∧ nd = 0
            · obtain ⟨z1, z2⟩ := cz
              subst z2
              have y48 : (((s[k].toNat : Nat) : Int) == 48) = true := beq_iff_eq.2 (by omega)
              rw [if_pos ⟨z1, rfl⟩] at hN
              have h2N := hide hN
              clear hN hm19
              go_wp2
              go_round
              case rel => exact ⟨k + 1, rfl, by omega, by go_num, by rw [unhide h2N], by rw [unhide h2N], by rw [unhide h2N], by rw [unhide h2N], by rw [unhide h2N], by rw [unhide h2N], by rw [unhide h2N]⟩
              case measure => simp [intOf]; omega
            · rw [if_neg cz] at hN
              by_cases cn : nm < 19
              · have hm := hm19 cn
                have hni : (nm : Int) < 19 := by omega
                rw [if_pos cn] at hN
                have h2N := hide hN
                clear hN hm19
                by_cases c48 : s[k].toNat = 48
                · have y48 : (((s[k].toNat : Nat) : Int) == 48) = true := beq_iff_eq.2 (by omega)
                  have yn : ((nd : Int) == 0) = false := beq_eq_false_iff_ne.2 (by omega)
                  go_wp2
                  go_round
                  case rel => exact ⟨k + 1, rfl, by omega, by go_num, by rw [unhide h2N]; go_num, by rw [unhide h2N], by rw [unhide h2N], by rw [unhide h2N], by rw [unhide h2N]; go_num, by rw [unhide h2N]; go_num, by rw [unhide h2N]⟩
                  case measure => simp [intOf]; omega
                · have y48 : (((s[k].toNat : Nat) : Int) == 48) = false := beq_eq_false_iff_ne.2 (by omega)
                  go_wp2
                  go_round
                  case rel => exact ⟨k + 1, rfl, by omega, by go_num, by rw [unhide h2N]; go_num, by rw [unhide h2N], by rw [unhide h2N], by rw [unhide h2N], by rw [unhide h2N]; go_num, by rw [unhide h2N]; go_num, by rw [unhide h2N]⟩
                  case measure => simp [intOf]; omega
              · have hni : ¬ (nm : Int) < 19 := by omega
                rw [if_neg cn] at hN
                clear hm19
                by_cases c48 : s[k].toNat = 48
                · have y48 : (((s[k].toNat : Nat) : Int) == 48) = true := beq_iff_eq.2 (by omega)
                  have yn : ((nd : Int) == 0) = false := beq_eq_false_iff_ne.2 (by omega)
                  rw [if_pos c48] at hN
                  have h2N := hide hN
                  clear hN
                  go_wp2
                  go_round
                  case rel => exact ⟨k + 1, rfl, by omega, by go_num, by rw [unhide h2N], by rw [unhide h2N], by rw [unhide h2N], by rw [unhide h2N], by rw [unhide h2N]; go_num, by rw [unhide h2N], by rw [unhide h2N]⟩
                  case measure => simp [intOf]; omega
                · have y48 : (((s[k].toNat : Nat) : Int) == 48) = false := beq_eq_false_iff_ne.2 (by omega)
                  rw [if_neg c48] at hN
                  have h2N := hide hN
                  clear hN
                  go_wp2
                  go_round
                  case rel => exact ⟨k + 1, rfl, by omega, by go_num, by rw [unhide h2N], by rw [unhide h2N], by rw [unhide h2N], by rw [unhide h2N], by rw [unhide h2N]; go_num, by rw [unhide h2N], by rw [unhide h2N]⟩
                  case measure => simp [intOf]; omega
        · obtain rfl : k = s.size := by omega
          obtain ⟨i1, i2, i3, i4, i5, i6⟩ := hI
          have hdg := unhide HD
          clear i6 HD HG HO
          obtain ⟨R, hR⟩ : ∃ R, rk s s.size = R := ⟨_, rfl⟩
          rw [hR] at hdg i1 i2 i3 i4 i5
          simp only [hR]
          obtain ⟨m, nd, nm, dp, dot, dig, tr⟩ := R
          simp only at hdg i1 i2 i3 i4 i5 ⊢
          have HR := hide hR
          clear hR
          subst hdg
          by_cases m0 : m = 0
          · subst m0
            cases dot
            · go_wp2
              (try simp only [Exit.inBlock, Exit.then]); refine bodyPost_ret (results_tmp7 rfl _ _ _) rfl ?_
              exact ⟨by rw [unhide HR]; rfl, rfl⟩
            · go_wp2
              (try simp only [Exit.inBlock, Exit.then]); refine bodyPost_ret (results_tmp7 rfl _ _ _) rfl ?_
              exact ⟨by rw [unhide HR]; rfl, rfl⟩
          · have ym : ((m : Int) == 0) = false := beq_eq_false_iff_ne.2 (by omega)
            cases dot
            · go_wp2
              (try simp only [Exit.inBlock, Exit.then]); refine bodyPost_ret (results_tmp7 rfl _ _ _) rfl ?_
              exact ⟨by rw [unhide HR]; simp [rexp, m0], rfl⟩
            · go_wp2
              (try simp only [Exit.inBlock, Exit.then]); refine bodyPost_ret (results_tmp7 rfl _ _ _) rfl ?_
              exact ⟨by rw [unhide HR]; simp [rexp, m0], rfl⟩
  · have hl : ¬ (2 : Int) < s.size := by omega
    go_wp2
    go_step3
    go_wp2
    go_step3
    go_wp2
    clear e1 e2 hl
    go_loop [2, 5, 7, 9, 13, 14, 15, 16, 17] (fun m tr i us dot dig nd nm dp => ∃ k : Nat, us = .bool false ∧ k ≤ s.size ∧ i = .int .i64 k ∧ m = .int .u64 (rk s k).m ∧ tr = .bool (rk s k).tr ∧ dot = .bool (rk s k).dot ∧ dig = .bool (rk s k).dig ∧ nd = .int .i64 (rk s k).nd ∧ nm = .int .i64 (rk s k).nm ∧ dp = .int .i64 (rk s k).dp) (fun _ _ i _ _ _ _ _ _ => s.size - (intOf i).toNat)
    case atStart => exact ⟨0, rfl, Nat.zero_le _, rfl, rfl, rfl, rfl, rfl, rfl, rfl, rfl⟩
    case round =>
      obtain ⟨k, rfl, hk, rfl, rfl, rfl, rfl, rfl, rfl, rfl, rfl⟩ := hrel
      have hI := rk_inv (unhide HG) k hk
      by_cases hlt : k < s.size
      · have hlti : (k : Int) < s.size := by omega
        have hN := rk_succ s k hlt
        have hok := unhide HG k hlt
        have hD := rk_dot (unhide HO) k hlt
        have n95 : (((s[k].toNat : Nat) : Int) == 95) = false := beq_eq_false_iff_ne.2 (by omega)
        obtain ⟨i1, i2, i3, i4, i5, i6⟩ := hI
        have hm19 : (rk s k).nm < 19 → (rk s k).m < 1000000000000000000 := fun h => by
          have : 10 ^ (rk s k).nm ≤ 10 ^ 18 := Nat.pow_le_pow_right (by decide) (by omega)
          omega
        unfold rstep at hN
        have h2N := hide hN
        clear hN i6
        generalize rk s k = R at *
        obtain ⟨m, nd, nm, dp, dot, dig, tr⟩ := R
        simp only at h2N hD hm19 i1 i2 i3 i4 i5
        by_cases c46 : s[k].toNat = 46
        · have hd0 := hD c46
          subst hd0
          have y46 : (((s[k].toNat : Nat) : Int) == 46) = true := beq_iff_eq.2 (by omega)
          have hN := unhide h2N
          rw [if_pos c46] at hN
          have h2N := hide hN
          clear hN hD hm19
          go_wp2
          go_round
          case rel => exact ⟨k + 1, rfl, by omega, by go_num, by rw [unhide h2N], by rw [unhide h2N], by rw [unhide h2N], by rw [unhide h2N], by rw [unhide h2N], by rw [unhide h2N], by rw [unhide h2N]⟩
          case measure => simp [intOf]; omega
        · have h48 : (48 : Int) ≤ (s[k].toNat : Nat) := by omega
          have h57 : ((s[k].toNat : Nat) : Int) ≤ 57 := by omega
          have y46 : (((s[k].toNat : Nat) : Int) == 46) = false := beq_eq_false_iff_ne.2 (by omega)
          have hN := unhide h2N
          rw [if_neg c46] at hN
          clear h2N hD
          by_cases cz : s[k].toNat = 48 ∧ nd = 0
          · obtain ⟨z1, z2⟩ := cz
            subst z2
            have y48 : (((s[k].toNat : Nat) : Int) == 48) = true := beq_iff_eq.2 (by omega)
            rw [if_pos ⟨z1, rfl⟩] at hN
            have h2N := hide hN
            clear hN hm19
            go_wp2
            go_round
            case rel => exact ⟨k + 1, rfl, by omega, by go_num, by rw [unhide h2N], by rw [unhide h2N], by rw [unhide h2N], by rw [unhide h2N], by rw [unhide h2N], by rw [unhide h2N], by rw [unhide h2N]⟩
            case measure => simp [intOf]; omega
          · rw [if_neg cz] at hN
            by_cases cn : nm < 19
            · have hm := hm19 cn
              have hni : (nm : Int) < 19 := by omega
              rw [if_pos cn] at hN
              have h2N := hide hN
              clear hN hm19
              by_cases c48 : s[k].toNat = 48
              · have y48 : (((s[k].toNat : Nat) : Int) == 48) = true := beq_iff_eq.2 (by omega)
                have yn : ((nd : Int) == 0) = false := beq_eq_false_iff_ne.2 (by omega)
                go_wp2
                go_round
                case rel => exact ⟨k + 1, rfl, by omega, by go_num, by rw [unhide h2N]; go_num, by rw [unhide h2N], by rw [unhide h2N], by rw [unhide h2N], by rw [unhide h2N]; go_num, by rw [unhide h2N]; go_num, by rw [unhide h2N]⟩
                case measure => simp [intOf]; omega
              · have y48 : (((s[k].toNat : Nat) : Int) == 48) = false := beq_eq_false_iff_ne.2 (by omega)
                go_wp2
                go_round
                case rel => exact ⟨k + 1, rfl, by omega, by go_num, by rw [unhide h2N]; go_num, by rw [unhide h2N], by rw [unhide h2N], by rw [unhide h2N], by rw [unhide h2N]; go_num, by rw [unhide h2N]; go_num, by rw [unhide h2N]⟩
                case measure => simp [intOf]; omega
            · exfalso; omega
      · obtain rfl : k = s.size := by omega
        obtain ⟨i1, i2, i3, i4, i5, i6⟩ := hI
        have hdg := unhide HD
        clear i6 HD HG HO
        obtain ⟨R, hR⟩ : ∃ R, rk s s.size = R := ⟨_, rfl⟩
        rw [hR] at hdg i1 i2 i3 i4 i5
        simp only [hR]
        obtain ⟨m, nd, nm, dp, dot, dig, tr⟩ := R
        simp only at hdg i1 i2 i3 i4 i5 ⊢
        have HR := hide hR
        clear hR
        subst hdg
        by_cases m0 : m = 0
        · subst m0
          cases dot
          · go_wp2
            (try simp only [Exit.inBlock, Exit.then]); refine bodyPost_ret (results_tmp7 rfl _ _ _) rfl ?_
            exact ⟨by rw [unhide HR]; rfl, rfl⟩
          · go_wp2
            (try simp only [Exit.inBlock, Exit.then]); refine bodyPost_ret (results_tmp7 rfl _ _ _) rfl ?_
            exact ⟨by rw [unhide HR]; rfl, rfl⟩
        · have ym : ((m : Int) == 0) = false := beq_eq_false_iff_ne.2 (by omega)
          cases dot
          · go_wp2
            (try simp only [Exit.inBlock, Exit.then]); refine bodyPost_ret (results_tmp7 rfl _ _ _) rfl ?_
            exact ⟨by rw [unhide HR]; simp [rexp, m0], rfl⟩
          · go_wp2
            (try simp only [Exit.inBlock, Exit.then]); refine bodyPost_ret (results_tmp7 rfl _ _ _) rfl ?_
            exact ⟨by rw [unhide HR]; simp [rexp, m0], rfl⟩
end Go.Proofs.Qxb6600776aDoor
