import Derived.Test.Qxb6600776aDoorRead
import Derived.Test.Qxb6600776aDoorShifts
set_option linter.unusedSimpArgs false
set_option linter.unusedVariables false
namespace Go.Proofs.Qxb6600776aDoor

/-- The digits among the first k bytes. -/
def ds (s : ByteArray) : Nat → List UInt8
  | 0 => []
  | k + 1 => if h : k < s.size then (if s[k].toNat = 46 then ds s k else ds s k ++ [s[k]]) else ds s k
/-- How many digits among the first k bytes lie behind the dot. -/
def kf (s : ByteArray) : Nat → Nat
  | 0 => 0
  | k + 1 => if h : k < s.size then (if s[k].toNat = 46 then kf s k else if (rk s k).dot then kf s k + 1 else kf s k) else kf s k
theorem ds_succ (s : ByteArray) (k : Nat) (h : k < s.size) : ds s (k + 1) = if s[k].toNat = 46 then ds s k else ds s k ++ [s[k]] := by simp [ds, h]
theorem kf_succ (s : ByteArray) (k : Nat) (h : k < s.size) : kf s (k + 1) = if s[k].toNat = 46 then kf s k else if (rk s k).dot then kf s k + 1 else kf s k := by simp [kf, h]
theorem ds_len (s : ByteArray) : ∀ k, (ds s k).length ≤ k
  | 0 => by simp [ds]
  | k + 1 => by
    have := ds_len s k
    unfold ds
    split
    · split
      · omega
      · simp; omega
    · omega
theorem kf_le (s : ByteArray) : ∀ k, kf s k ≤ (ds s k).length
  | 0 => by simp [kf, ds]
  | k + 1 => by
    have := kf_le s k
    unfold kf ds
    split
    · split
      · exact this
      · split
        · simp; omega
        · simp; omega
    · exact this
theorem ds_dig (s : ByteArray) (hg : Gram s) : ∀ k, ∀ c ∈ ds s k, 48 ≤ c.toNat ∧ c.toNat ≤ 57
  | 0, c, h => by simp [ds] at h
  | k + 1, c, h => by
    unfold ds at h
    split at h
    · rename_i hk
      split at h
      · exact ds_dig s hg k c h
      · rename_i h46
        rcases List.mem_append.1 h with h | h
        · exact ds_dig s hg k c h
        · simp at h; subst h
          have := hg k hk
          omega
    · exact ds_dig s hg k c h
/-- The digits as a function. -/
def dD (s : ByteArray) (j : Nat) : Nat := ((ds s s.size).getD j 0).toNat
theorem dD_dig (s : ByteArray) (hg : Gram s) : Dig (dD s) (ds s s.size).length := by
  intro j hj
  unfold dD
  rw [List.getD, List.getElem?_eq_getElem hj]
  exact ds_dig s hg s.size _ (List.getElem_mem hj)
end Go.Proofs.Qxb6600776aDoor
