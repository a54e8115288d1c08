/- The bits of a copy command, and what is read behind it, in plain Lean. -/
import Derived.Test.YtgibmkgibkhemaaDoorDcB
namespace Go.Proofs.YtgibmkgibkhemaaDoor
open Go.RowKit
set_option linter.unusedSimpArgs false
set_option linter.unusedVariables false

def pO (o : Nat) : Nat → Bool
  | 0 => decide (o % 256 ≠ 0)
  | 1 => decide (o / 256 ≠ 0)
  | _ => false
theorem posP_pO (o : Nat) : posP (pO o) 2 = bit1 (o % 256) + bit1 (o / 256) := by
  show 0 + (if pO o 0 = true then 1 else 0) + (if pO o 1 = true then 1 else 0) = _
  unfold pO bit1
  by_cases h0 : o % 256 = 0 <;> by_cases h1 : o / 256 = 0 <;> simp [h0, h1]
theorem posP_pO3 (o : Nat) : posP (pO o) 3 = bit1 (o % 256) + bit1 (o / 256) := by rw [← posP_pO]; rfl
theorem posP_pO4 (o : Nat) : posP (pO o) 4 = bit1 (o % 256) + bit1 (o / 256) := by rw [← posP_pO]; rfl
theorem valP_pO (o : Nat) (g : Nat → Nat) (h : ∀ i, i < bit1 (o % 256) + bit1 (o / 256) → g i = (optB (o % 256) ++ optB (o / 256)).getD i 0) : valP (pO o) g 2 = o := by
  show 0 + (if pO o 0 = true then g (posP (pO o) 0) * 256 ^ 0 else 0) + (if pO o 1 = true then g (posP (pO o) 1) * 256 ^ 1 else 0) = o
  have p0 : posP (pO o) 0 = 0 := rfl
  have p1 : posP (pO o) 1 = (if pO o 0 = true then 1 else 0) := by show 0 + (if pO o 0 = true then 1 else 0) = _; rw [Nat.zero_add]
  rw [p0, p1]
  by_cases h0 : o % 256 = 0
  · by_cases h1 : o / 256 = 0
    · simp [pO, h0, h1]; omega
    · have hg := h 0 (by simp [bit1, h0, h1])
      simp [optB, h0, h1] at hg
      simp [pO, h0, h1, hg]; omega
  · by_cases h1 : o / 256 = 0
    · have hg := h 0 (by simp [bit1, h0, h1])
      simp [optB, h0, h1] at hg
      simp [pO, h0, h1, hg]; omega
    · have hg := h 0 (by simp [bit1, h0, h1])
      have hg1 := h 1 (by simp [bit1, h0, h1])
      simp [optB, h0, h1] at hg hg1
      simp [pO, h0, h1, hg, hg1]; omega
theorem valP_pO3 (o : Nat) (g : Nat → Nat) (h : ∀ i, i < bit1 (o % 256) + bit1 (o / 256) → g i = (optB (o % 256) ++ optB (o / 256)).getD i 0) : valP (pO o) g 3 = o := by
  have e := valP_pO o g h
  show valP (pO o) g 2 + (if false = true then g (posP (pO o) 2) * 256 ^ 2 else 0) = o
  rw [e]; simp
theorem valP_pO4 (o : Nat) (g : Nat → Nat) (h : ∀ i, i < bit1 (o % 256) + bit1 (o / 256) → g i = (optB (o % 256) ++ optB (o / 256)).getD i 0) : valP (pO o) g 4 = o := by
  have e := valP_pO3 o g h
  show valP (pO o) g 3 + (if false = true then g (posP (pO o) 3) * 256 ^ 3 else 0) = o
  rw [e]; simp
set_option maxRecDepth 10000 in
theorem code_bits (b0 b1 b2 b3 : Nat) (h0 : b0 ≤ 1) (h1 : b1 ≤ 1) (h2 : b2 ≤ 1) (h3 : b3 ≤ 1) :
    (bits .and .u8 ((128 + b0 + 2 * b1 + 16 * b2 + 32 * b3 : Nat) : Int) 1 = (b0 : Int) ∧ bits .and .u8 ((128 + b0 + 2 * b1 + 16 * b2 + 32 * b3 : Nat) : Int) 2 = 2 * (b1 : Int) ∧ bits .and .u8 ((128 + b0 + 2 * b1 + 16 * b2 + 32 * b3 : Nat) : Int) 4 = 0 ∧ bits .and .u8 ((128 + b0 + 2 * b1 + 16 * b2 + 32 * b3 : Nat) : Int) 8 = 0) ∧
    bits .and .u8 ((128 + b0 + 2 * b1 + 16 * b2 + 32 * b3 : Nat) : Int) 16 = 16 * (b2 : Int) ∧ bits .and .u8 ((128 + b0 + 2 * b1 + 16 * b2 + 32 * b3 : Nat) : Int) 32 = 32 * (b3 : Int) ∧ bits .and .u8 ((128 + b0 + 2 * b1 + 16 * b2 + 32 * b3 : Nat) : Int) 64 = 0 ∧ bits .and .u8 ((128 + b0 + 2 * b1 + 16 * b2 + 32 * b3 : Nat) : Int) 128 = 128 := by
  rcases (by omega : b0 = 0 ∨ b0 = 1) with rfl | rfl <;> rcases (by omega : b1 = 0 ∨ b1 = 1) with rfl | rfl <;> rcases (by omega : b2 = 0 ∨ b2 = 1) with rfl | rfl <;> rcases (by omega : b3 = 0 ∨ b3 = 1) with rfl | rfl <;> decide
theorem bit1_pO (o : Nat) : (bit1 (o % 256) : Int) = (if pO o 0 = true then 1 else 0) ∧ 2 * (bit1 (o / 256) : Int) = (if pO o 1 = true then 2 else 0) ∧ 16 * (bit1 (o % 256) : Int) = (if pO o 0 = true then 16 else 0) ∧ 32 * (bit1 (o / 256) : Int) = (if pO o 1 = true then 32 else 0) := by
  unfold pO bit1
  by_cases h0 : o % 256 = 0 <;> by_cases h1 : o / 256 = 0 <;> simp [h0, h1]
theorem cpy_bitsO (o n : Nat) : bits .and .u8 (cpyCode o n : Int) 1 = (if pO o 0 = true then 1 else 0) ∧ bits .and .u8 (cpyCode o n : Int) 2 = (if pO o 1 = true then 2 else 0) ∧ bits .and .u8 (cpyCode o n : Int) 4 = (if pO o 2 = true then 4 else 0) ∧ bits .and .u8 (cpyCode o n : Int) 8 = (if pO o 3 = true then 8 else 0) := by
  have h := (code_bits (bit1 (o % 256)) (bit1 (o / 256)) (bit1 (n % 256)) (bit1 (n / 256)) (bit1_le _) (bit1_le _) (bit1_le _) (bit1_le _)).1
  have hb := bit1_pO o
  exact ⟨h.1.trans hb.1, h.2.1.trans hb.2.1, h.2.2.1, h.2.2.2⟩
theorem cpy_bitsN (o n : Nat) : bits .and .u8 (cpyCode o n : Int) 16 = (if pO n 0 = true then 16 else 0) ∧ bits .and .u8 (cpyCode o n : Int) 32 = (if pO n 1 = true then 32 else 0) ∧ bits .and .u8 (cpyCode o n : Int) 64 = (if pO n 2 = true then 64 else 0) := by
  have h := (code_bits (bit1 (o % 256)) (bit1 (o / 256)) (bit1 (n % 256)) (bit1 (n / 256)) (bit1_le _) (bit1_le _) (bit1_le _) (bit1_le _)).2
  have hb := bit1_pO n
  exact ⟨h.1.trans hb.2.2.1, h.2.1.trans hb.2.2.2, h.2.2.1⟩
end Go.Proofs.YtgibmkgibkhemaaDoor
