/- The code points of texts that are put together. -/
import Derived.Test.YtdmkjfkdjhmpjaaDoorHfs
namespace Go.Proofs.YtdmkjfkdjhmpjaaDoor
open Go.RowKit
set_option linter.unusedSimpArgs false
set_option linter.unusedVariables false

theorem byteAt_eq (s : ByteArray) (k : Nat) : s.get! k = s.data.toList.getD k 0 := by
  rw [List.getD_eq_getElem?_getD, Array.getElem?_toList]
  show s.data[k]! = _
  rw [getElem!_def]
  cases h : s.data[k]? <;> rfl

theorem byteAt_nat (s : ByteArray) (k : Nat) : (s.get! k).toNat = bx s k := by rw [byteAt_eq, bx_toList]

theorem bx_append_right (x t : ByteArray) (k : Nat) : bx (x ++ t) (x.size + k) = bx t k := by
  unfold bx
  rw [nb_append, List.getD_eq_getElem?_getD, List.getD_eq_getElem?_getD, ← nb_length x, List.getElem?_append_right (by omega)]
  congr 2; omega
theorem bx_append_left (x t : ByteArray) (k : Nat) (h : k < x.size) : bx (x ++ t) k = bx x k := by
  unfold bx
  rw [nb_append, List.getD_eq_getElem?_getD, List.getD_eq_getElem?_getD, List.getElem?_append_left (by rw [nb_length]; exact h)]

/-- 'decode', in numbers. -/
theorem decode_eq (s : ByteArray) (i : Nat) : Utf8.decode s i =
    (if bx s i < 0x80 then (bx s i, 1)
    else if bx s i / 32 == 6 && (decide (i + 1 < s.size) && bx s (i + 1) / 64 == 2) then
      if (bx s i % 32) * 64 + bx s (i + 1) % 64 ≥ 0x80 then ((bx s i % 32) * 64 + bx s (i + 1) % 64, 2) else (Utf8.runeError, 1)
    else if bx s i / 16 == 14 && (decide (i + 1 < s.size) && bx s (i + 1) / 64 == 2) && (decide (i + 2 < s.size) && bx s (i + 2) / 64 == 2) then
      if (decide ((bx s i % 16) * 4096 + (bx s (i + 1) % 64) * 64 + bx s (i + 2) % 64 ≥ 0x800) && Utf8.valid (((bx s i % 16) * 4096 + (bx s (i + 1) % 64) * 64 + bx s (i + 2) % 64 : Nat) : Int)) = true then ((bx s i % 16) * 4096 + (bx s (i + 1) % 64) * 64 + bx s (i + 2) % 64, 3) else (Utf8.runeError, 1)
    else if bx s i / 8 == 30 && (decide (i + 1 < s.size) && bx s (i + 1) / 64 == 2) && (decide (i + 2 < s.size) && bx s (i + 2) / 64 == 2) && (decide (i + 3 < s.size) && bx s (i + 3) / 64 == 2) then
      if (decide ((bx s i % 8) * 262144 + (bx s (i + 1) % 64) * 4096 + (bx s (i + 2) % 64) * 64 + bx s (i + 3) % 64 ≥ 0x10000) && Utf8.valid (((bx s i % 8) * 262144 + (bx s (i + 1) % 64) * 4096 + (bx s (i + 2) % 64) * 64 + bx s (i + 3) % 64 : Nat) : Int)) = true then ((bx s i % 8) * 262144 + (bx s (i + 1) % 64) * 4096 + (bx s (i + 2) % 64) * 64 + bx s (i + 3) % 64, 4) else (Utf8.runeError, 1)
    else (Utf8.runeError, 1)) := by
  simp only [Utf8.decode, byteAt_nat, Nat.add_zero]

theorem decode_append (x t : ByteArray) (i : Nat) : Utf8.decode (x ++ t) (x.size + i) = Utf8.decode t i := by
  have e : ∀ k, (x.size + i + k < (x ++ t).size) ↔ (i + k < t.size) := fun k => by rw [ByteArray.size_append]; omega
  rw [decode_eq, decode_eq]
  simp only [bx_append_right, Nat.add_assoc, ByteArray.size_append, Nat.add_lt_add_iff_left]

theorem decode_pos (s : ByteArray) (i : Nat) : 1 ≤ (Utf8.decode s i).2 := by
  rw [decode_eq]
  repeat' split
  all_goals simp

theorem runesN_shift (x t : ByteArray) : ∀ (B i : Nat), runesN (x ++ t) B (x.size + i) = runesN t B i
  | 0, _ => rfl
  | B + 1, i => by
    unfold runesN
    by_cases h : i < t.size
    · rw [if_pos (by rw [ByteArray.size_append]; omega), if_pos h, decode_append, Nat.add_assoc, runesN_shift x t B]
    · rw [if_neg (by rw [ByteArray.size_append]; omega), if_neg h]

/-- Enough rounds are enough. -/
theorem runesN_fuel (s : ByteArray) : ∀ (B i : Nat), s.size ≤ B + i → runesN s (B + 1) i = runesN s B i
  | 0, i, h => by unfold runesN; rw [if_neg (by omega)]
  | B + 1, i, h => by
    rw [runesN]
    conv => rhs; rw [runesN]
    by_cases hi : i < s.size
    · rw [if_pos hi, if_pos hi, runesN_fuel s B _ (by have := decode_pos s i; omega)]
    · rw [if_neg hi, if_neg hi]
theorem runesN_fuel' (s : ByteArray) (i : Nat) : ∀ (d B : Nat), s.size ≤ B + i → runesN s (B + d) i = runesN s B i
  | 0, _, _ => rfl
  | d + 1, B, h => by rw [← Nat.add_assoc, runesN_fuel s (B + d) i (by omega), runesN_fuel' s i d B h]

theorem runes_step {s : ByteArray} {B : Nat} (h : 0 < s.size) (hB : s.size ≤ B) : runesN s B 0 = (Utf8.decode s 0).1 :: runesN s B (Utf8.decode s 0).2 := by
  obtain ⟨b, rfl⟩ : ∃ b, B = b + 1 := ⟨B - 1, by omega⟩
  have := decode_pos s 0
  rw [runesN_fuel s b (Utf8.decode s 0).2 (by omega)]
  conv => lhs; rw [runesN, if_pos h, Nat.zero_add]

/-- A text that is one code point, ahead of another text. -/
theorem runes_cons (x t : ByteArray) (r : Nat) (hx : 0 < x.size) (h : Utf8.decode (x ++ t) 0 = (r, x.size)) : runes (x ++ t) = r :: runes t := by
  unfold runes
  rw [runes_step (by rw [ByteArray.size_append]; omega) (Nat.le_refl _), h]
  have := runesN_shift x t (x ++ t).size 0
  simp only [Nat.add_zero] at this
  rw [this, ByteArray.size_append, Nat.add_comm x.size]
  rw [runesN_fuel' t 0 x.size t.size (by omega)]

/-- A text that ends where a code point ends. -/
structure Whole (s : ByteArray) : Prop where
  app : ∀ t, runes (s ++ t) = runes s ++ runes t

theorem empty_append (t : ByteArray) : (⟨#[]⟩ : ByteArray) ++ t = t := by
  apply nb_inj; rw [nb_append]; rfl
theorem append_empty (t : ByteArray) : t ++ (⟨#[]⟩ : ByteArray) = t := by
  apply nb_inj; rw [nb_append]; simp [nb]
theorem append_assoc (a b c : ByteArray) : a ++ b ++ c = a ++ (b ++ c) := by
  apply nb_inj; simp only [nb_append, List.append_assoc]
theorem runes_empty : runes ⟨#[]⟩ = [] := rfl
theorem Whole.empty : Whole ⟨#[]⟩ := ⟨fun t => by rw [empty_append, runes_empty]; rfl⟩
theorem Whole.append {a b : ByteArray} (ha : Whole a) (hb : Whole b) : Whole (a ++ b) :=
  ⟨fun t => by rw [append_assoc, ha.app, hb.app, ha.app, List.append_assoc]⟩

/-- One code point: its number, whatever follows. -/
structure One (x : ByteArray) (r : Nat) : Prop where
  pos : 0 < x.size
  dec : ∀ t, Utf8.decode (x ++ t) 0 = (r, x.size)
theorem One.runes_app {x : ByteArray} {r : Nat} (h : One x r) (t : ByteArray) : runes (x ++ t) = r :: runes t := runes_cons x t r h.pos (h.dec t)
theorem One.runes {x : ByteArray} {r : Nat} (h : One x r) : runes x = [r] := by
  have := h.runes_app ⟨#[]⟩
  rwa [append_empty, runes_empty] at this
theorem One.whole {x : ByteArray} {r : Nat} (h : One x r) : Whole x := ⟨fun t => by rw [h.runes_app, h.runes]; rfl⟩

theorem one_ascii (x : ByteArray) (h1 : x.size = 1) (h : bx x 0 < 128) : One x (bx x 0) :=
  ⟨by omega, fun t => by rw [decode_eq, bx_append_left x t 0 (by omega), if_pos h, h1]⟩

theorem one_three (x : ByteArray) (h3 : x.size = 3) (h0 : bx x 0 / 16 = 14) (h1 : bx x 1 / 64 = 2) (h2 : bx x 2 / 64 = 2)
    (hc : 0x800 ≤ (bx x 0 % 16) * 4096 + (bx x 1 % 64) * 64 + bx x 2 % 64) (hv : Utf8.valid (((bx x 0 % 16) * 4096 + (bx x 1 % 64) * 64 + bx x 2 % 64 : Nat) : Int) = true) :
    One x ((bx x 0 % 16) * 4096 + (bx x 1 % 64) * 64 + bx x 2 % 64) :=
  ⟨by omega, fun t => by
    rw [decode_eq, Nat.zero_add, Nat.zero_add, bx_append_left x t 0 (by omega), bx_append_left x t 1 (by omega), bx_append_left x t 2 (by omega), ByteArray.size_append]
    rw [if_neg (by omega), if_neg (by simp; omega), if_pos (by simp [h0, h1, h2]; omega), if_pos (by rw [hv]; simpa using hc), h3]⟩

/-- What is left of code points without those that are ignored. -/
def keep (R : List Nat) : List Nat := R.filter fun r => !ign r
theorem rest_zero (R : List Nat) : rest R 0 = keep R := rfl
theorem keep_append (a b : List Nat) : keep (a ++ b) = keep a ++ keep b := List.filter_append ..

end Go.Proofs.YtdmkjfkdjhmpjaaDoor
