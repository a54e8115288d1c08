/- Patterns of one part as signs: what each sign takes, what the code's own matcher answers (gm), in plain Lean. -/
import Derived.Test.YteipeagdflcjjaaDoorLib
namespace Go.Proofs.YteipeagdflcjjaaDoor
open Go.RowKit
set_option linter.unusedSimpArgs false
set_option linter.unusedVariables false

inductive Tok where
  | star : Tok
  | any : Tok
  | lit (c : Nat) : Tok
  | esc (c : Nat) : Tok
  | set (neg : Bool) (items : List (Nat × Option Nat)) : Tok

def itemText (i : Nat × Option Nat) : List Nat := match i.2 with
  | none => [i.1]
  | some h => [i.1, 45, h]
def itemsText (l : List (Nat × Option Nat)) : List Nat := l.flatMap itemText
def negText (b : Bool) : List Nat := if b = true then [94] else []
def Tok.text : Tok → List Nat
  | .star => [42]
  | .any => [63]
  | .lit c => [c]
  | .esc c => [92, c]
  | .set neg items => 91 :: (negText neg ++ (itemsText items ++ [93]))
def texts (T : List Tok) : List Nat := T.flatMap Tok.text
def Tok.isStar : Tok → Bool
  | .star => true
  | _ => false
def letter (c : Nat) : Prop := 97 ≤ c ∧ c ≤ 99
def goodItem (i : Nat × Option Nat) : Prop := letter i.1 ∧ ∀ h, i.2 = some h → letter h
def Tok.good : Tok → Prop
  | .star => True
  | .any => True
  | .lit c => letter c ∨ c = 46
  | .esc c => letter c ∨ c = 42 ∨ c = 63 ∨ c = 91
  | .set _ items => items ≠ [] ∧ ∀ i ∈ items, goodItem i

def hasItem (c : Nat) (i : Nat × Option Nat) : Bool := decide (i.1 ≤ c ∧ c ≤ i.2.getD i.1)
def Tok.has (c : Nat) : Tok → Bool
  | .star => false
  | .any => c != 47
  | .lit x => x == c
  | .esc x => x == c
  | .set neg items => items.any (hasItem c) != neg

def chM : List Tok → List Nat → Option (List Nat)
  | [], s => some s
  | _ :: _, [] => none
  | t :: r, c :: s => if t.has c = true then chM r s else none

def srch (ch : List Tok) (fin : Bool) : List Nat → Option (List Nat)
  | [] => none
  | c :: r => if c = 47 then none else match chM ch r with
    | some t => if fin = true ∧ t ≠ [] then srch ch fin r else some t
    | none => srch ch fin r
def firstOk (star : Bool) (ch : List Tok) (fin : Bool) (s : List Nat) : Option (List Nat) := match chM ch s with
  | some t => if fin = true ∧ t ≠ [] then (if star = true then srch ch fin s else none) else some t
  | none => if star = true then srch ch fin s else none
def notStar (t : Tok) : Bool := !t.isStar
def stars (T : List Tok) : Bool := match T with
  | [] => false
  | t :: _ => t.isStar
def gm : Nat → List Tok → List Nat → Bool
  | 0, _, _ => false
  | _ + 1, [], s => s.isEmpty
  | n + 1, t :: r, s =>
    let T1 := (t :: r).dropWhile Tok.isStar
    let ch := T1.takeWhile notStar
    let T2 := T1.dropWhile notStar
    if t.isStar = true ∧ ch = [] then !(s.contains 47)
    else match firstOk t.isStar ch T2.isEmpty s with
      | some u => gm n T2 u
      | none => false

theorem texts_cons (t : Tok) (T : List Tok) : texts (t :: T) = t.text ++ texts T := rfl
theorem texts_append (A B : List Tok) : texts (A ++ B) = texts A ++ texts B := by simp [texts]
theorem text_ne (t : Tok) : t.text ≠ [] := by cases t <;> simp [Tok.text]
theorem texts_nil_iff (T : List Tok) : texts T = [] ↔ T = [] := by
  constructor
  · intro h
    cases T with
    | nil => rfl
    | cons t r =>
      rw [texts_cons, List.append_eq_nil_iff] at h
      exact absurd h.1 (text_ne t)
  · rintro rfl; rfl

/-! ## The search for a chunk's end -/
def scanI : List Nat → Bool → Nat
  | [], _ => 0
  | c :: r, inr =>
    if c = 92 then (match r with
      | [] => 1
      | _ :: r' => 2 + scanI r' inr)
    else if c = 91 then 1 + scanI r true
    else if c = 93 then 1 + scanI r false
    else if c = 42 then (if inr = true then 1 + scanI r inr else 0)
    else 1 + scanI r inr

theorem scan_plain (l r : List Nat) (b : Bool) (h : ∀ c ∈ l, c ≠ 92 ∧ c ≠ 91 ∧ c ≠ 93 ∧ c ≠ 42) : scanI (l ++ r) b = l.length + scanI r b := by
  induction l with
  | nil => simp
  | cons c l ih =>
    obtain ⟨h1, h2, h3, h4⟩ := h c (by simp)
    rw [List.cons_append, scanI.eq_def]
    dsimp only
    rw [if_neg h1, if_neg h2, if_neg h3, if_neg h4, ih (fun c hc => h c (by simp [hc]))]
    simp; omega
theorem items_plain (l : List (Nat × Option Nat)) (h : ∀ i ∈ l, goodItem i) : ∀ c ∈ itemsText l, letter c ∨ c = 45 := by
  intro c hc
  obtain ⟨i, hi, hc⟩ := List.mem_flatMap.mp hc
  obtain ⟨h1, h2⟩ := h i hi
  unfold itemText at hc
  cases e : i.2 with
  | none =>
    rw [e] at hc
    simp at hc
    subst hc
    exact .inl h1
  | some x =>
    rw [e] at hc
    simp at hc
    rcases hc with rfl | rfl | rfl
    · exact .inl h1
    · exact .inr rfl
    · exact .inl (h2 _ e)
theorem scan_tok (t : Tok) (r : List Nat) (hg : t.good) (hs : t.isStar = false) : scanI (t.text ++ r) false = t.text.length + scanI r false := by
  cases t with
  | star => cases hs
  | any => exact scan_plain [63] r false (by simp)
  | lit c =>
    refine scan_plain [c] r false ?_
    intro x hx
    rw [List.mem_singleton] at hx
    subst hx
    unfold Tok.good letter at hg
    dsimp only at hg
    omega
  | esc c =>
    show scanI (92 :: c :: r) false = 2 + scanI r false
    rw [scanI.eq_def]
    dsimp only
    rw [if_pos rfl]
  | set neg items =>
    show scanI (91 :: (negText neg ++ (itemsText items ++ [93])) ++ r) false = (91 :: (negText neg ++ (itemsText items ++ [93]))).length + scanI r false
    rw [List.cons_append, scanI.eq_def]
    dsimp only
    rw [if_neg (by decide), if_pos rfl, List.append_assoc, scan_plain (negText neg), List.append_assoc, scan_plain (itemsText items)]
    · rw [List.singleton_append, scanI.eq_def]
      dsimp only
      rw [if_neg (by decide), if_neg (by decide), if_pos rfl]
      simp
      omega
    · intro c hc
      rcases items_plain items hg.2 c hc with h | h
      · unfold letter at h; omega
      · omega
    · intro c hc
      unfold negText at hc
      split at hc
      · rw [List.mem_singleton] at hc; omega
      · cases hc
/-- The chunk's end, at a text of signs. -/
theorem scan_texts (T : List Tok) (hg : ∀ t ∈ T, t.good) : scanI (texts T) false = (texts (T.takeWhile notStar)).length := by
  induction T with
  | nil => rfl
  | cons t r ih =>
    have ht := hg t (by simp)
    rw [texts_cons]
    cases hs : t.isStar with
    | true =>
      have : t = .star := by cases t <;> first | rfl | cases hs
      subst this
      rw [show Tok.star.text ++ texts r = 42 :: texts r from rfl, scanI.eq_def, List.takeWhile_cons_of_neg (by simp [notStar, Tok.isStar])]
      simp [texts]
    | false =>
      rw [scan_tok t _ ht hs, ih (fun x hx => hg x (by simp [hx])), List.takeWhile_cons_of_pos (by unfold notStar; rw [hs]; rfl), texts_cons, List.length_append]

theorem take_texts (T : List Tok) (hg : ∀ t ∈ T, t.good) : (texts T).take (scanI (texts T) false) = texts (T.takeWhile notStar) ∧ (texts T).drop (scanI (texts T) false) = texts (T.dropWhile notStar) := by
  rw [scan_texts T hg]
  have e : texts T = texts (T.takeWhile notStar) ++ texts (T.dropWhile notStar) := by rw [← texts_append, List.takeWhile_append_dropWhile]
  constructor
  · conv => lhs; rw [e]
    rw [List.take_left]
  · conv => lhs; rw [e]
    rw [List.drop_left]

/-- A sign that is no star begins with no star. -/
theorem head_text (t : Tok) (hg : t.good) (r : List Nat) : (t.isStar = true ∧ (t.text ++ r) = 42 :: r) ∨ (t.isStar = false ∧ ∃ c l, t.text ++ r = c :: l ∧ c ≠ 42) := by
  cases t with
  | star => exact .inl ⟨rfl, rfl⟩
  | any => exact .inr ⟨rfl, 63, r, rfl, by decide⟩
  | lit c =>
    refine .inr ⟨rfl, c, r, rfl, ?_⟩
    unfold Tok.good letter at hg
    dsimp only at hg
    omega
  | esc c => exact .inr ⟨rfl, 92, c :: r, rfl, by decide⟩
  | set neg items => exact .inr ⟨rfl, 91, _, rfl, by decide⟩
end Go.Proofs.YteipeagdflcjjaaDoor
