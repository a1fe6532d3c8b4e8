import Derived.Test.Qxb6000100aDoorIndexA
set_option linter.unusedSimpArgs false
set_option linter.unusedVariables false
namespace Go.Proofs.Qxb6000100aDoor
open Go.RowKit Go.Shelf Go.Proofs.Qxb6000100aDoor.Pl

/-- The bytes B from place k on, so many. -/
def bytesAt (B : Nat → Int) (k q : Nat) : ByteArray := ⟨((List.range q).map fun j => (B (k + j)).toNat.toUInt8).toArray⟩
theorem bytesAt_size (B : Nat → Int) (k q : Nat) : (bytesAt B k q).size = q := by
  show (((List.range q).map fun j => (B (k + j)).toNat.toUInt8).toArray).size = q
  simp
theorem bytesAt_get (B : Nat → Int) (hB : ∀ k, 0 ≤ B k ∧ B k < 256) (k q j : Nat) (hj : j < q) : (((bytesAt B k q).get! j).toNat : Int) = B (k + j) := by
  have e : (bytesAt B k q).get! j = (B (k + j)).toNat.toUInt8 := by
    show (((List.range q).map fun j => (B (k + j)).toNat.toUInt8).toArray)[j]! = _
    rw [getElem!_pos _ j (by simpa using hj)]
    simp
  rw [e]
  have := hB (k + j)
  simp; omega
theorem bytesAt_nat (B : Nat → Int) (hB : ∀ k, 0 ≤ B k ∧ B k < 256) (k q j : Nat) (hj : j < q) : ((bytesAt B k q).get! j).toNat = (B (k + j)).toNat := by
  have := bytesAt_get B hB k q j hj
  have := hB (k + j)
  omega

/-- unicode/utf8.DecodeRune at a byte beyond ASCII, in the words that the walk wants. -/
theorem c25 (g o q cap k : Nat) (B : Nat → Int) (hB : ∀ k, 0 ≤ B k ∧ B k < 256) (w : World) (hq : 1 ≤ q) (hT : Lib.Utf8Tabs 1 2 w)
    (hc : ∀ j, j < q → w.cell? ⟨g, o + j, none⟩ = some (.int .u8 (B (k + j)))) (h128 : 128 ≤ B k) :
    Calls Tryd.prog 25 #[.slice (some ⟨g, o, none⟩) q cap] w fun e w' => (∃ r wd : Nat, e = .returned (.tuple #[.int .i32 r, .int .i64 wd]) ∧ 128 ≤ r ∧ r ≤ 1114111 ∧ 1 ≤ wd ∧ wd ≤ 4 ∧ wd ≤ q ∧ (∀ j, 0 < j → j < wd → 128 ≤ B (k + j)) ∧
      (¬ r = 65533 → 2 ≤ wd ∧ (Utf8.encode r).size = wd ∧ Lib.index cset (Utf8.encode r).data.toList = -1)) ∧ Below w.heap.size w w' := by
  have c := Any7.utf8_DecodeRune Tryd.lays7_32 (bytesAt B k q) g o cap w hT (fun j hj => by
    rw [bytesAt_size] at hj
    rw [hc j hj, bytesAt_get B hB k q j hj])
  rw [bytesAt_size] at c
  refine Calls.mono (show Calls Tryd.prog 25 _ _ _ from c) ?_
  rintro e w' ⟨rfl, hb⟩
  refine ⟨⟨(Lib.decodeGo (bytesAt B k q)).1, (Lib.decodeGo (bytesAt B k q)).2, rfl, ?_⟩, hb⟩
  unfold Lib.decodeGo
  rw [bytesAt_size, if_neg (by omega), Lib.decode_at, bytesAt_size]
  have b0 : ((bytesAt B k q).get! 0).toNat = (B k).toNat := bytesAt_nat B hB k q 0 (by omega)
  have hk := hB k
  have F := dec_facts (q - 0) ((bytesAt B k q).get! 0).toNat ((bytesAt B k q).get! (0 + 1)).toNat ((bytesAt B k q).get! (0 + 2)).toNat ((bytesAt B k q).get! (0 + 3)).toNat (by omega) (by rw [b0]; omega) (by rw [b0]; omega)
  have b1 : 1 < q → ((bytesAt B k q).get! (0 + 1)).toNat = (B (k + 1)).toNat := fun h => bytesAt_nat B hB k q 1 h
  have b2 : 2 < q → ((bytesAt B k q).get! (0 + 2)).toNat = (B (k + 2)).toNat := fun h => bytesAt_nat B hB k q 2 h
  have b3 : 3 < q → ((bytesAt B k q).get! (0 + 3)).toNat = (B (k + 3)).toNat := fun h => bytesAt_nat B hB k q 3 h
  generalize ((bytesAt B k q).get! (0 + 1)).toNat = y1 at *
  generalize ((bytesAt B k q).get! (0 + 2)).toNat = y2 at *
  generalize ((bytesAt B k q).get! (0 + 3)).toNat = y3 at *
  generalize Lib.decodeN (q - 0) ((bytesAt B k q).get! 0).toNat y1 y2 y3 = p at *
  obtain ⟨r, wd⟩ := p
  obtain ⟨f1, f2, f3, f4, f5, f6, f7, f8, f9⟩ := F
  dsimp only at *
  have hk1 := hB (k + 1); have hk2 := hB (k + 2); have hk3 := hB (k + 3)
  refine ⟨f1, f2, f3, f4, by omega, fun j hj1 hj2 => ?_, fun hr => ?_⟩
  · rcases (show j = 1 ∨ j = 2 ∨ j = 3 by omega) with rfl | rfl | rfl
    · have := f6 (by omega); rw [b1 (by omega)] at this; omega
    · have := f7 (by omega); rw [b2 (by omega)] at this; omega
    · have := f8 (by omega); rw [b3 (by omega)] at this; omega
  · rcases f9 hr with ⟨rfl, a⟩ | ⟨rfl, a, b, c⟩ | ⟨rfl, a⟩
    · obtain ⟨e1, c, t, e2, e3⟩ := enc2 r f1 a
      exact ⟨by omega, e1, by rw [e2]; exact index_none c t e3⟩
    · obtain ⟨e1, c, t, e2, e3⟩ := enc3 r a b c
      exact ⟨by omega, e1, by rw [e2]; exact index_none c t e3⟩
    · obtain ⟨e1, c, t, e2, e3⟩ := enc4 r a f2
      exact ⟨by omega, e1, by rw [e2]; exact index_none c t e3⟩
end Go.Proofs.Qxb6000100aDoor
