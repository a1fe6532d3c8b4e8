import Derived.Test.Qxb6600776aDoorRound
import Derived.Test.Qxb6600776aDoorBounds2
import Derived.WalkMore
set_option linter.unusedSimpArgs false
set_option linter.unusedVariables false
set_option exponentiation.threshold 10000
namespace Go.Proofs.Qxb6600776aDoor
open Go.RowKit

/-- As Q; by a goto to a label of c: on from there, and no goto more. -/
def exitFwd (P : Program) (c : Code) (Q : Exit → Act → World → Prop) : Exit → Act → World → Prop
  | .goto l, a, w => ∃ rest, findLabel c l = some rest ∧ rest.wp P (Exit.noGoto Q) a w
  | e, a, w => Q e a w

/-- A scope whose gotos run forward: whatever holds at the goto, the walk goes on at the label. -/
theorem wp_scope_fwd {P : Program} {a : Act} {w : World} {Q : Exit → Act → World → Prop} {c : Code}
    (h : ∀ R : Exit → Act → World → Prop, Hid (∀ l a w rest, findLabel c l = some rest → rest.wp P (Exit.noGoto Q) a w → R (.goto l) a w) → Hid (∀ a w, Q .ret a w → R .ret a w) → c.wp P R a w) :
    (Code.scope c).wp P Q a w := by
  have first := h (exitFwd P c Q) (fun l a w rest h1 h2 => ⟨rest, h1, h2⟩) (fun a w h => h)
  intro b k cs
  obtain ⟨e, a₁, w₁, hq, harr⟩ := first b (.inScope c :: k) cs
  cases e with
  | normal => exact ⟨.normal, a₁, w₁, hq, .head step_scope (Steps.trans harr (.one step_inScope))⟩
  | exit id => exact ⟨.exit id, a₁, w₁, hq, fun k' hk => .head step_scope (harr k' (by simp [exitTo, hk]))⟩
  | goto l =>
    obtain ⟨rest, hf, hr⟩ := hq
    have hg : gotoIn l (.inScope c :: k) = some (.code rest :: .inScope c :: k) := by simp [gotoIn, hf]
    obtain ⟨e₂, a₂, w₂, hq₂, harr₂⟩ := hr b (.inScope c :: k) cs
    have pre := (Steps.head step_scope (harr _ hg))
    cases e₂ with
    | normal => exact ⟨.normal, a₂, w₂, hq₂, Steps.trans pre (Steps.trans harr₂ (.one step_inScope))⟩
    | exit id => exact ⟨.exit id, a₂, w₂, hq₂, fun k' hk => Steps.trans pre (harr₂ k' (by simp [exitTo, hk]))⟩
    | goto l => exact hq₂.elim
    | ret => exact ⟨_, a₂, w₂, hq₂, .of_steps pre harr₂⟩
    | panic ch => exact ⟨_, a₂, w₂, hq₂, .of_steps pre harr₂⟩
    | outgrown => exact ⟨_, a₂, w₂, hq₂, .of_steps pre harr₂⟩
  | ret => exact ⟨_, a₁, w₁, hq, .of_steps (.one step_scope) harr⟩
  | panic ch => exact ⟨_, a₁, w₁, hq, .of_steps (.one step_scope) harr⟩
  | outgrown => exact ⟨_, a₁, w₁, hq, .of_steps (.one step_scope) harr⟩

/-- The variable powtab as its text lays it, below block N. -/
def PowT (N : Nat) (w : World) : Prop := ∃ g o c, 7 < N ∧ g < N ∧ w.cell? ⟨7, 0, none⟩ = some (.slice (some ⟨g, o, none⟩) 9 c) ∧ ∀ k, k < 9 → w.cell? ⟨g, o + k, none⟩ = some (.int .i64 (ptab k))
theorem PowT.below {N : Nat} {w w' : World} (h : PowT N w) (hb : Below N w w') : PowT N w' := by
  obtain ⟨g, o, c, h1, h2, h3, h4⟩ := h
  exact ⟨g, o, c, h1, h2, by rw [hb.cell (by exact h1)]; exact h3, fun k hk => by rw [hb.cell (by exact h2)]; exact h4 k hk⟩
/-- The variable float64info as its text lays it. -/
structure FInfo (N : Nat) (w : World) : Prop where
  lt : 5 < N
  mb : w.cell? ⟨5, 0, none⟩ = some (.int .u64 52)
  eb : w.cell? ⟨5, 1, none⟩ = some (.int .u64 11)
  bi : w.cell? ⟨5, 2, none⟩ = some (.int .i64 (-1023))
theorem FInfo.below {N : Nat} {w w' : World} (h : FInfo N w) (hb : Below N w w') : FInfo N w' :=
  ⟨h.lt, by rw [hb.cell (by exact h.lt)]; exact h.mb, by rw [hb.cell (by exact h.lt)]; exact h.eb, by rw [hb.cell (by exact h.lt)]; exact h.bi⟩
theorem DecP.cells {w : World} {N P : Nat} {dp : Int} (h : DecP w N P dp) : (∃ nd : Nat, 1 ≤ nd ∧ w.cell? ⟨N, 800, none⟩ = some (.int .i64 nd)) ∧ w.cell? ⟨N, 801, none⟩ = some (.int .i64 dp) ∧ w.cell? ⟨N, 802, none⟩ = some (.bool false) ∧
    ∃ x : Nat, w.cell? ⟨N, 0, none⟩ = some (.int .u8 x) ∧ 49 ≤ x ∧ x ≤ 57 ∧ P / 10 ^ 799 = x - 48 ∧ (x - 48) * 10 ^ 799 ≤ P ∧ P < (x - 48 + 1) * 10 ^ 799 := by
  obtain ⟨D, nd, tr, h, h1, h2, h3, h4, rfl⟩ := h
  have hl := pad_lead h2 h1 h3
  refine ⟨⟨nd, h1, h.nd⟩, h.dp, h.neg, D 0, h.d 0 (by omega), h4, (h3 0 (by omega)).2, ?_, hl⟩
  exact Nat.div_eq_of_lt_le hl.1 hl.2
theorem and2047 : ∀ s : Fin 2048, bits BinOp.and IntKind.i64 (s.val : Int) 2047 = (s.val : Int) := by decide +kernel
end Go.Proofs.Qxb6600776aDoor
