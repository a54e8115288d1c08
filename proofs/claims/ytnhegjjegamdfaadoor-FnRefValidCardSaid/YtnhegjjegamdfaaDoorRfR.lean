/- zzIndexAny, zzContainsAny over signs below 128. -/
import Derived.Test.YtnhegjjegamdfaaDoorRfA
import Derived.Lib.OthersKept
import Derived.Laws.IdiomStrings
namespace Go.Proofs.YtnhegjjegamdfaaDoor
open Go.RowKit
set_option linter.unusedSimpArgs false
set_option linter.unusedVariables false

theorem byteAt_eq (s : ByteArray) (k : Nat) : s.get! k = s.data.toList.getD k 0 := by
  rw [List.getD_eq_getElem?_getD, Array.getElem?_toList]
  show s.data[k]! = _
  rw [getElem!_def]
  cases h : s.data[k]? <;> rfl
theorem byteAt_nat (s : ByteArray) (k : Nat) : (s.get! k).toNat = bx s k := by rw [byteAt_eq, bx_toList]
theorem decode_low {s : ByteArray} {i : Nat} (h : bx s i < 128) : Utf8.decode s i = (bx s i, 1) := by
  simp only [Utf8.decode, byteAt_nat, Nat.add_zero]
  rw [if_pos h]
theorem decode_high {s : ByteArray} {i : Nat} (h : 128 ≤ bx s i) : 128 ≤ (Utf8.decode s i).1 ∧ 1 ≤ (Utf8.decode s i).2 ∧ ∀ j, i ≤ j → j < i + (Utf8.decode s i).2 → 128 ≤ bx s j := by
  simp only [Utf8.decode, byteAt_nat, Nat.add_zero]
  rw [if_neg (by omega)]
  have hj1 : ∀ j, i ≤ j → j < i + 1 → 128 ≤ bx s j := fun j h1 h2 => by rw [show j = i by omega]; exact h
  have hr : 128 ≤ Utf8.runeError := by decide
  split
  · rename_i h1
    simp only [Bool.and_eq_true, beq_iff_eq, decide_eq_true_iff] at h1
    split
    · refine ⟨by simp only; omega, by simp only; omega, fun j h2 h3 => ?_⟩
      simp only at h3
      rcases (by omega : j = i ∨ j = i + 1) with rfl | rfl
      · exact h
      · omega
    · exact ⟨hr, by decide, hj1⟩
  · split
    · rename_i h1
      simp only [Bool.and_eq_true, beq_iff_eq, decide_eq_true_iff] at h1
      split
      · rename_i h4
        simp only [Bool.and_eq_true, decide_eq_true_iff] at h4
        refine ⟨by simp only; omega, by simp only; omega, fun j h2 h3 => ?_⟩
        simp only at h3
        rcases (by omega : j = i ∨ j = i + 1 ∨ j = i + 2) with rfl | rfl | rfl
        · exact h
        · omega
        · omega
      · exact ⟨hr, by decide, hj1⟩
    · split
      · rename_i h1
        simp only [Bool.and_eq_true, beq_iff_eq, decide_eq_true_iff] at h1
        split
        · rename_i h4
          simp only [Bool.and_eq_true, decide_eq_true_iff] at h4
          refine ⟨by simp only; omega, by simp only; omega, fun j h2 h3 => ?_⟩
          simp only at h3
          rcases (by omega : j = i ∨ j = i + 1 ∨ j = i + 2 ∨ j = i + 3) with rfl | rfl | rfl | rfl
          · exact h
          · omega
          · omega
          · omega
        · exact ⟨hr, by decide, hj1⟩
      · exact ⟨hr, by decide, hj1⟩
end Go.Proofs.YtnhegjjegamdfaaDoor
