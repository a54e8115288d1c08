/- Names of references in plain Lean: the parts between the strokes; safe names, right names; the two ways to say what is right agree. -/
import Derived.Test.YtnhegjjegamdfaaFmtLib
namespace Go.Proofs.YtnhegjjegamdfaaFmt
open Go.RowKit
set_option linter.unusedSimpArgs false
set_option linter.unusedVariables false

def parts : List Nat → List (List Nat)
  | [] => [[]]
  | c :: l => if c = 47 then [] :: parts l else match parts l with | [] => [[c]] | p :: ps => (c :: p) :: ps
theorem parts_ne (l : List Nat) : parts l ≠ [] := by
  cases l with
  | nil => unfold parts; simp
  | cons c l =>
    unfold parts
    split
    · simp
    · split <;> simp
theorem parts_one (a : List Nat) (h : 47 ∉ a) : parts a = [a] := by
  induction a with
  | nil => rfl
  | cons c l ih =>
    have h1 : c ≠ 47 := fun e => h (by rw [e]; exact List.mem_cons_self)
    have h2 : 47 ∉ l := fun e => h (List.mem_cons_of_mem _ e)
    unfold parts
    rw [if_neg h1, ih h2]
theorem parts_cut (a b : List Nat) (h : 47 ∉ a) : parts (a ++ 47 :: b) = a :: parts b := by
  induction a with
  | nil => show parts (47 :: b) = _; rw [parts, if_pos rfl]
  | cons c l ih =>
    have h1 : c ≠ 47 := fun e => h (by rw [e]; exact List.mem_cons_self)
    have h2 : 47 ∉ l := fun e => h (List.mem_cons_of_mem _ e)
    show parts (c :: (l ++ 47 :: b)) = _
    rw [parts, if_neg h1, ih h2]
theorem cut_or (l : List Nat) : 47 ∉ l ∨ ∃ a b, l = a ++ 47 :: b ∧ 47 ∉ a := by
  induction l with
  | nil => exact .inl (by simp)
  | cons c l ih =>
    by_cases h1 : c = 47
    · exact .inr ⟨[], l, by rw [h1]; rfl, by simp⟩
    · rcases ih with h | ⟨a, b, rfl, h⟩
      · exact .inl (fun e => by exact (List.mem_cons.mp e).elim (fun e => h1 e.symm) h)
      · exact .inr ⟨c :: a, b, rfl, fun e => by exact (List.mem_cons.mp e).elim (fun e => h1 e.symm) h⟩
theorem parts_ind (Q : List Nat → Prop) (h1 : ∀ l, 47 ∉ l → Q l) (h2 : ∀ a b, 47 ∉ a → Q b → Q (a ++ 47 :: b)) (l : List Nat) : Q l := by
  have h : ∀ n (l : List Nat), l.length ≤ n → Q l := by
    intro n
    induction n with
    | zero =>
      intro l hl
      refine h1 l ?_
      have h0 : l = [] := List.length_eq_zero_iff.mp (by omega)
      rw [h0]; simp
    | succ n ih =>
      intro l hl
      rcases cut_or l with h | ⟨a, b, rfl, ha⟩
      · exact h1 l h
      · exact h2 a b ha (ih b (by simp at hl; omega))
  exact h l.length l (Nat.le_refl _)

/-- l has p within. -/
def Has (l p : List Nat) : Prop := ∃ a b, l = a ++ (p ++ b)
def Pre (l p : List Nat) : Prop := ∃ b, l = p ++ b
def Suf (l p : List Nat) : Prop := ∃ a, l = a ++ p
theorem has_cut (a b p : List Nat) (ha : 47 ∉ a) (hp : 47 ∉ p) (hn : p ≠ []) : Has (a ++ 47 :: b) p ↔ Has a p ∨ Has b p := by
  constructor
  · rintro ⟨x, y, h⟩
    rcases List.append_eq_append_iff.mp h with ⟨c, rfl, h2⟩ | ⟨c, rfl, h2⟩
    · cases c with
      | nil =>
        cases p with
        | nil => exact absurd rfl hn
        | cons q p => exact absurd (List.cons.inj h2).1 (fun e => hp (by rw [e]; exact List.mem_cons_self))
      | cons d c => exact .inr ⟨c, y, (List.cons.inj h2).2⟩
    · rcases List.append_eq_append_iff.mp h2 with ⟨d, rfl, h3⟩ | ⟨d, rfl, h3⟩
      · exact .inl ⟨x, d, rfl⟩
      · cases d with
        | nil => exact .inl ⟨x, [], by simp⟩
        | cons e d => exact absurd (List.cons.inj h3).1 (fun e => hp (by rw [e]; simp))
  · rintro (⟨x, y, rfl⟩ | ⟨x, y, rfl⟩)
    · exact ⟨x, y ++ 47 :: b, by simp⟩
    · exact ⟨a ++ 47 :: x, y, by simp⟩
theorem has_parts (l p : List Nat) (hp : 47 ∉ p) (hn : p ≠ []) : Has l p ↔ ∃ q ∈ parts l, Has q p := by
  refine parts_ind (fun l => Has l p ↔ ∃ q ∈ parts l, Has q p) ?_ ?_ l
  · intro l hl
    rw [parts_one l hl]; simp
  · intro a b ha ih
    rw [parts_cut a b ha, has_cut a b p ha hp hn, ih]; simp
theorem mem_has (l : List Nat) (c : Nat) : c ∈ l ↔ Has l [c] := by
  constructor
  · intro h
    obtain ⟨a, b, rfl⟩ := List.append_of_mem h
    exact ⟨a, b, rfl⟩
  · rintro ⟨a, b, rfl⟩; simp
theorem mem_parts (l : List Nat) (c : Nat) (hc : c ≠ 47) : c ∈ l ↔ ∃ q ∈ parts l, c ∈ q := by
  rw [mem_has, has_parts l [c] (by simp; exact fun e => hc e.symm) (by simp)]
  constructor
  · rintro ⟨q, h1, h2⟩; exact ⟨q, h1, (mem_has q c).mpr h2⟩
  · rintro ⟨q, h1, h2⟩; exact ⟨q, h1, (mem_has q c).mp h2⟩
theorem parts_head (l : List Nat) (c : Nat) (hc : c ≠ 47) : (∃ p, (parts l)[0]? = some p ∧ Pre p [c]) ↔ Pre l [c] := by
  cases l with
  | nil => constructor <;> rintro ⟨p, h⟩
           · have : p = [] := by have := h.1; simp [parts] at this; exact this
             obtain ⟨b, hb⟩ := h.2
             rw [this] at hb; cases hb
           · cases h
  | cons d l =>
    by_cases hd : d = 47
    · subst hd
      constructor
      · rintro ⟨p, h1, b, rfl⟩
        rw [parts, if_pos rfl] at h1
        cases h1
      · rintro ⟨b, h⟩; exact absurd (List.cons.inj h).1.symm hc
    · constructor
      · rintro ⟨p, h1, b, rfl⟩
        rw [parts, if_neg hd] at h1
        revert h1
        split
        · intro h1; cases h1; exact ⟨l, rfl⟩
        · rename_i q qs _
          intro h1
          have h2 : d :: q = [c] ++ b := by simpa using h1
          exact ⟨l, by rw [(List.cons.inj h2).1]; rfl⟩
      · rintro ⟨b, h⟩
        have h2 : d = c := (List.cons.inj h).1
        rw [parts, if_neg hd]
        split
        · exact ⟨_, rfl, [], by rw [h2]; rfl⟩
        · rename_i q qs _
          exact ⟨_, rfl, q, by rw [h2]; rfl⟩

/-! ## Safe names -/
def refsL : List Nat := [114, 101, 102, 115, 47]
def SafeP (l : List Nat) : Prop :=
  (∃ r, l = refsL ++ r ∧ (∀ p ∈ parts r, p ≠ [] ∧ p ≠ [46] ∧ p ≠ [46, 46]) ∧ 92 ∉ r) ∨ (¬ Pre l refsL ∧ l ≠ [] ∧ ∀ c ∈ l, (65 ≤ c ∧ c ≤ 90) ∨ c = 95)

/-! ## Right names -/
def ctl (c : Nat) : Prop := c < 32 ∨ c = 127
def anyL : List Nat := [126, 94, 58, 63, 42, 91, 32, 9, 10]
def lockL : List Nat := [46, 108, 111, 99, 107]
def headL : List Nat := [72, 69, 65, 68]
def branchL : List Nat := [114, 101, 102, 115, 47, 104, 101, 97, 100, 115, 47]
def tagL : List Nat := [114, 101, 102, 115, 47, 116, 97, 103, 115, 47]
def PartOk (p : List Nat) : Prop :=
  p ≠ [] ∧ ¬ Pre p [46] ∧ ¬ Has p [46, 46] ∧ (∀ c ∈ p, ¬ ctl c) ∧ (∀ c ∈ p, c ∉ anyL) ∧ ¬ Has p [64, 123] ∧ p ≠ [64] ∧ ¬ Has p [92] ∧ ¬ Suf p lockL
def Hyph (l : List Nat) (i : Nat) (p : List Nat) : Prop := (Pre l branchL ∨ Pre l tagL) ∧ Pre p [45] ∧ i = 2
def ValidI (l : List Nat) : Prop :=
  l = headL ∨ (l ≠ [] ∧ ¬ Suf l [46] ∧ 2 ≤ (parts l).length ∧ ∀ i p, (parts l)[i]? = some p → PartOk p ∧ ¬ Hyph l i p)
def badL : List Nat := [32, 126, 94, 58, 63, 42, 91, 92]
def ValidS (l : List Nat) : Prop :=
  (∀ p ∈ parts l, p ≠ [] ∧ ¬ Pre p [46] ∧ ¬ Suf p lockL) ∧ 2 ≤ (parts l).length ∧ ¬ Has l [46, 46] ∧ ¬ Suf l [46] ∧ ¬ Has l [64, 123] ∧ l ≠ [64] ∧ ∀ c ∈ l, ¬ (c < 32 ∨ c = 127 ∨ c ∈ badL)
theorem parts_branch (r : List Nat) : parts (branchL ++ r) = [114, 101, 102, 115] :: [104, 101, 97, 100, 115] :: parts r := by
  have h1 : branchL ++ r = [114, 101, 102, 115] ++ 47 :: ([104, 101, 97, 100, 115] ++ 47 :: r) := rfl
  rw [h1, parts_cut _ _ (by decide), parts_cut _ _ (by decide)]
theorem parts_tag (r : List Nat) : parts (tagL ++ r) = [114, 101, 102, 115] :: [116, 97, 103, 115] :: parts r := by
  have h1 : tagL ++ r = [114, 101, 102, 115] ++ 47 :: ([116, 97, 103, 115] ++ 47 :: r) := rfl
  rw [h1, parts_cut _ _ (by decide), parts_cut _ _ (by decide)]
theorem hyph_iff (l : List Nat) : (∃ i p, (parts l)[i]? = some p ∧ Hyph l i p) ↔ Pre l (branchL ++ [45]) ∨ Pre l (tagL ++ [45]) := by
  constructor
  · rintro ⟨i, p, h1, ⟨r, rfl⟩ | ⟨r, rfl⟩, h3, rfl⟩
    · rw [parts_branch] at h1
      obtain ⟨b, rfl⟩ := (parts_head r 45 (by decide)).mp ⟨p, h1, h3⟩
      exact .inl ⟨b, by simp⟩
    · rw [parts_tag] at h1
      obtain ⟨b, rfl⟩ := (parts_head r 45 (by decide)).mp ⟨p, h1, h3⟩
      exact .inr ⟨b, by simp⟩
  · rintro (⟨b, rfl⟩ | ⟨b, rfl⟩)
    · obtain ⟨p, h1, h2⟩ := (parts_head ([45] ++ b) 45 (by decide)).mpr ⟨b, rfl⟩
      refine ⟨2, p, ?_, .inl ⟨[45] ++ b, by simp⟩, h2, rfl⟩
      rw [List.append_assoc, parts_branch]; exact h1
    · obtain ⟨p, h1, h2⟩ := (parts_head ([45] ++ b) 45 (by decide)).mpr ⟨b, rfl⟩
      refine ⟨2, p, ?_, .inr ⟨[45] ++ b, by simp⟩, h2, rfl⟩
      rw [List.append_assoc, parts_tag]; exact h1
instance (c : Nat) : Decidable (ctl c) := inferInstanceAs (Decidable (_ ∨ _))
theorem mem_any (c : Nat) : (¬ ctl c ∧ c ∉ anyL ∧ c ≠ 92) ↔ ¬ (c < 32 ∨ c = 127 ∨ c ∈ badL) := by
  unfold ctl anyL badL
  simp only [List.mem_cons, List.not_mem_nil, or_false]
  omega
/-- THE LAW. -/
theorem valid_law (l : List Nat) (hat : ∀ p ∈ parts l, p ≠ [64]) :
    ValidI l ↔ ((ValidS l ∧ ¬ (Pre l (branchL ++ [45]) ∨ Pre l (tagL ++ [45]))) ∨ l = headL) := by
  unfold ValidI
  rw [or_comm]
  refine or_congr ?_ Iff.rfl
  rw [← hyph_iff]
  constructor
  · rintro ⟨h0, h1, h2, h3⟩
    have hall : ∀ p ∈ parts l, PartOk p := fun p hp => by
      obtain ⟨i, hi⟩ := List.mem_iff_getElem?.mp hp
      exact (h3 i p hi).1
    have hno : ∀ q, 47 ∉ q → q ≠ [] → (∀ p ∈ parts l, ¬ Has p q) → ¬ Has l q := fun q h1 h2 h h4 => by
      obtain ⟨p, hp, h5⟩ := (has_parts l q h1 h2).mp h4
      exact h p hp h5
    refine ⟨⟨fun p hp => ⟨(hall p hp).1, (hall p hp).2.1, (hall p hp).2.2.2.2.2.2.2.2⟩, h2, hno _ (by decide) (by decide) (fun p hp => (hall p hp).2.2.1), h1, hno _ (by decide) (by decide) (fun p hp => (hall p hp).2.2.2.2.2.1), fun e => ?_, fun c hc => ?_⟩, fun ⟨i, p, h4, h5⟩ => (h3 i p h4).2 h5⟩
    · have h6 : parts l = [[64]] := by rw [e]; rfl
      exact hat [64] (by rw [h6]; simp) rfl
    · by_cases e : c = 47
      · subst e; decide
      · obtain ⟨p, hp, h6⟩ := (mem_parts l c e).mp hc
        refine (mem_any c).mp ⟨(hall p hp).2.2.2.1 c h6, (hall p hp).2.2.2.2.1 c h6, fun h7 => (hall p hp).2.2.2.2.2.2.2.1 ((mem_has p 92).mp (h7 ▸ h6))⟩
  · rintro ⟨⟨h1, h2, h3, h4, h5, h6, h7⟩, h8⟩
    refine ⟨fun e => ?_, h4, h2, fun i p hi => ?_⟩
    · subst e; exact absurd h2 (by decide)
    · have hp : p ∈ parts l := List.mem_iff_getElem?.mpr ⟨i, hi⟩
      have hm : ∀ c ∈ p, ¬ ctl c ∧ c ∉ anyL ∧ c ≠ 92 := fun c hc => by
        by_cases e : c = 47
        · subst e; decide
        · exact (mem_any c).mpr (h7 c ((mem_parts l c e).mpr ⟨p, hp, hc⟩))
      refine ⟨⟨(h1 p hp).1, (h1 p hp).2.1, fun h => h3 ((has_parts l _ (by decide) (by decide)).mpr ⟨p, hp, h⟩), fun c hc => (hm c hc).1, fun c hc => (hm c hc).2.1, fun h => h5 ((has_parts l _ (by decide) (by decide)).mpr ⟨p, hp, h⟩), hat p hp, fun h => (hm 92 ((mem_has p 92).mpr h)).2.2 rfl, (h1 p hp).2.2⟩, fun h => h8 ⟨i, p, hi, h⟩⟩
end Go.Proofs.YtnhegjjegamdfaaFmt
