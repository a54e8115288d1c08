/- What globSetEnd and isGlobPart let in, in plain Lean. -/
import Derived.Test.YteipeagdflcjjaaDoorTok
namespace Go.Proofs.YteipeagdflcjjaaDoor
open Go.RowKit
set_option linter.unusedSimpArgs false
set_option linter.unusedVariables false

theorem take_next (s : ByteArray) (k : Nat) (h : k < s.size) : (nb s).take (k + 1) = (nb s).take k ++ [bx s k] := by
  rw [List.take_succ_eq_append_getElem (by rw [nb_length]; exact h), bx_getElem]
theorem mid_next (s : ByteArray) (fr k : Nat) (hf : fr ≤ k) (h : k < s.size) : ((nb s).take (k + 1)).drop fr = ((nb s).take k).drop fr ++ [bx s k] := by
  rw [take_next s k h, List.drop_append_of_le_length (by rw [List.length_take, nb_length]; omega)]
theorem mid_get (s : ByteArray) (fr k j : Nat) (h : fr + j < k) (hk : k ≤ s.size) : (((nb s).take k).drop fr)[j]? = some (bx s (fr + j)) := by
  rw [List.getElem?_drop, List.getElem?_take_of_lt h, List.getElem?_eq_getElem (by rw [nb_length]; omega), bx_getElem]
theorem mid_len (s : ByteArray) (fr k : Nat) (hk : k ≤ s.size) : (((nb s).take k).drop fr).length = k - fr := by
  rw [List.length_drop, List.length_take, nb_length]; omega
theorem itemsText_append (A B : List (Nat × Option Nat)) : itemsText (A ++ B) = itemsText A ++ itemsText B := by simp [itemsText]

structure SetIn (s : ByteArray) (fr k : Nat) : Prop where
  le : fr ≤ k
  top : k ≤ s.size
  text : ∃ I tail, ((nb s).take k).drop fr = itemsText I ++ tail ∧ (∀ i ∈ I, goodItem i) ∧ (tail = [] ∨ ∃ lo, letter lo ∧ tail = [lo, 45] ∧ bx s k ≠ 93)

def SetStep (s : ByteArray) (fr k : Nat) : Prop :=
  k < s.size ∧ (letter (bx s k) ∨ (bx s k = 45 ∧ fr < k ∧ (k < fr + 2 ∨ bx s (k - 2) ≠ 45) ∧ bx s (k + 1) ≠ 93 ∧ bx s (k - 1) ≠ 45))

theorem SetIn.start {s : ByteArray} {fr : Nat} (h : fr ≤ s.size) : SetIn s fr fr :=
  ⟨Nat.le_refl _, h, [], [], by rw [List.drop_eq_nil_of_le (by rw [List.length_take]; omega)]; rfl, (fun i hi => by cases hi), .inl rfl⟩

theorem last_get (l : List Nat) (A : List Nat) (x : Nat) (h : l = A ++ [x]) : l[l.length - 1]? = some x := by
  subst h; simp

theorem SetIn.step {s : ByteArray} {fr k : Nat} (h : SetIn s fr k) (hs : SetStep s fr k) : SetIn s fr (k + 1) := by
  obtain ⟨hlt, hs⟩ := hs
  obtain ⟨hle, htop, I, tail, htext, hI, htail⟩ := h
  have hn := mid_next s fr k hle hlt
  refine ⟨by omega, by omega, ?_⟩
  rcases hs with hl | ⟨h45, hfk, hp2, hnx, hp1⟩
  · rcases htail with rfl | ⟨lo, hlo, rfl, _⟩
    · refine ⟨I ++ [(bx s k, none)], [], ?_, ?_, .inl rfl⟩
      · rw [hn, htext, itemsText_append]; simp [itemsText, itemText]
      · intro i hi
        rcases List.mem_append.mp hi with hi | hi
        · exact hI i hi
        · rw [List.mem_singleton] at hi; subst hi
          exact ⟨hl, fun h e => by cases e⟩
    · refine ⟨I ++ [(lo, some (bx s k))], [], ?_, ?_, .inl rfl⟩
      · rw [hn, htext, itemsText_append]; simp [itemsText, itemText]
      · intro i hi
        rcases List.mem_append.mp hi with hi | hi
        · exact hI i hi
        · rw [List.mem_singleton] at hi; subst hi
          exact ⟨hlo, fun h e => by cases e; exact hl⟩
  · have hlen := mid_len s fr k htop
    have hlast : (((nb s).take k).drop fr)[(((nb s).take k).drop fr).length - 1]? = some (bx s (k - 1)) := by
      rw [hlen, mid_get s fr k (k - fr - 1) (by omega) htop]
      congr 2; omega
    rcases htail with rfl | ⟨lo, hlo, rfl, _⟩
    · rw [List.append_nil] at htext
      rcases List.eq_nil_or_concat I with rfl | ⟨J, x, rfl⟩
      · rw [htext] at hlen
        simp [itemsText] at hlen
        omega
      · obtain ⟨lo, hi⟩ := x
        have hx := hI (lo, hi) (by simp)
        cases hi with
        | none =>
          refine ⟨J, [lo, 45], ?_, fun i hi => hI i (by simp [hi]), .inr ⟨lo, hx.1, rfl, hnx⟩⟩
          rw [hn, htext, List.concat_eq_append, itemsText_append, h45]
          simp [itemsText, itemText]
        | some hi =>
          exfalso
          rw [List.concat_eq_append, itemsText_append] at htext
          have e : itemsText [(lo, some hi)] = [lo, 45, hi] := by simp [itemsText, itemText]
          rw [e] at htext
          have hl2 : (itemsText J ++ [lo, 45, hi]).length = k - fr := by rw [← htext]; exact hlen
          rw [List.length_append] at hl2
          simp at hl2
          rcases hp2 with h | h
          · omega
          · apply h
            have h3 := mid_get s fr k (k - fr - 2) (by omega) htop
            rw [htext, List.getElem?_append_right (by omega), show k - fr - 2 - (itemsText J).length = 1 by omega] at h3
            simp at h3
            rw [show k - 2 = fr + (k - fr - 2) by omega, ← h3]
    · exfalso
      rw [htext] at hlast
      rw [show itemsText I ++ [lo, 45] = (itemsText I ++ [lo]) ++ [45] by simp, last_get _ _ 45 rfl] at hlast
      exact hp1 (Option.some.inj hlast).symm

theorem SetIn.fin {s : ByteArray} {neg : Bool} {k : Nat} (h : SetIn s (1 + (negText neg).length) k) (hk : k < s.size) (h0 : bx s 0 = 91) (hneg : neg = true → bx s 1 = 94) (hpos : 1 + (negText neg).length < k) (hc : bx s k = 93) :
    ∃ items, (Tok.set neg items).good ∧ (nb s).take (k + 1) = (Tok.set neg items).text := by
  obtain ⟨hle, htop, I, tail, htext, hI, htail⟩ := h
  have ht : tail = [] := by
    rcases htail with h | ⟨_, _, _, h⟩
    · exact h
    · exact absurd hc h
  subst ht
  rw [List.append_nil] at htext
  refine ⟨I, ⟨?_, hI⟩, ?_⟩
  · rintro rfl
    have := mid_len s (1 + (negText neg).length) k htop
    rw [htext] at this
    simp [itemsText] at this
    omega
  · rw [take_next s k hk, hc]
    have e : (nb s).take k = ((nb s).take k).take (1 + (negText neg).length) ++ ((nb s).take k).drop (1 + (negText neg).length) := (List.take_append_drop _ _).symm
    rw [e, htext, List.take_take, Nat.min_eq_left hle]
    have e2 : (nb s).take (1 + (negText neg).length) = 91 :: negText neg := by
      cases neg with
      | false =>
        show (nb s).take (0 + 1) = [91]
        rw [take_next s 0 (by omega), h0]; rfl
      | true =>
        show (nb s).take (0 + 1 + 1) = [91, 94]
        rw [take_next s (0 + 1) (by simp [negText] at hle; omega), take_next s 0 (by omega), h0, hneg rfl]; rfl
    rw [e2]
    simp [Tok.text]

/-- The first k bytes are signs of a pattern. -/
def PartIn (s : ByteArray) (k : Nat) : Prop := k ≤ s.size ∧ ∃ T, (nb s).take k = texts T ∧ ∀ t ∈ T, Tok.good t
theorem PartIn.start (s : ByteArray) : PartIn s 0 := ⟨Nat.zero_le _, [], rfl, fun t h => by cases h⟩
theorem PartIn.more {s : ByteArray} {k m : Nat} (h : PartIn s k) (t : Tok) (hm : m ≤ s.size) (hg : t.good) (ht : (nb s).take m = (nb s).take k ++ t.text) : PartIn s m := by
  obtain ⟨_, T, hT, hG⟩ := h
  refine ⟨hm, T ++ [t], ?_, fun x hx => ?_⟩
  · rw [ht, hT, texts_append]; simp [texts]
  · rcases List.mem_append.mp hx with hx | hx
    · exact hG x hx
    · rw [List.mem_singleton] at hx; subst hx; exact hg
theorem PartIn.star {s : ByteArray} {k : Nat} (h : PartIn s k) (hk : k < s.size) (hc : bx s k = 42) : PartIn s (k + 1) :=
  h.more .star (by omega) trivial (by rw [take_next s k hk, hc]; rfl)
theorem PartIn.any {s : ByteArray} {k : Nat} (h : PartIn s k) (hk : k < s.size) (hc : bx s k = 63) : PartIn s (k + 1) :=
  h.more .any (by omega) trivial (by rw [take_next s k hk, hc]; rfl)
theorem PartIn.lit {s : ByteArray} {k : Nat} (h : PartIn s k) (hk : k < s.size) (hc : letter (bx s k) ∨ bx s k = 46) : PartIn s (k + 1) :=
  h.more (.lit (bx s k)) (by omega) hc (by rw [take_next s k hk]; rfl)
theorem PartIn.esc {s : ByteArray} {k : Nat} (h : PartIn s k) (hk : k + 1 < s.size) (h0 : bx s k = 92) (hc : letter (bx s (k + 1)) ∨ bx s (k + 1) = 42 ∨ bx s (k + 1) = 63 ∨ bx s (k + 1) = 91) : PartIn s (k + 2) :=
  h.more (.esc (bx s (k + 1))) (by omega) hc (by rw [take_next s (k + 1) hk, take_next s k (by omega), h0]; simp [Tok.text])
theorem PartIn.set {s : ByteArray} {k n : Nat} (h : PartIn s k) (hn : n < (s.extract k s.size).size) (neg : Bool) (items : List (Nat × Option Nat)) (hg : (Tok.set neg items).good) (ht : (nb (s.extract k s.size)).take (n + 1) = (Tok.set neg items).text) : PartIn s (k + n + 1) := by
  rw [ByteArray.size_extract] at hn
  refine h.more (.set neg items) (by omega) hg ?_
  rw [← ht, nb_extract, List.take_take, Nat.min_eq_left (by omega), Nat.add_assoc, List.take_add]

/-- A part of a pattern that is not **. -/
def GoodPart (s : ByteArray) : Prop := ∃ T, nb s = texts T ∧ (∀ t ∈ T, Tok.good t) ∧ 1 ≤ s.size ∧ s.size ≤ 10
theorem PartIn.fin {s : ByteArray} (h : PartIn s s.size) (h1 : 1 ≤ s.size) (h2 : s.size ≤ 10) : GoodPart s := by
  obtain ⟨_, T, hT, hG⟩ := h
  rw [List.take_of_length_le (by rw [nb_length]; omega)] at hT
  exact ⟨T, hT, hG, h1, h2⟩
end Go.Proofs.YteipeagdflcjjaaDoor
