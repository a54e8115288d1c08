/- What a pattern's Match answers of a path, and of what stands below it, in plain Lean. -/
import Derived.Test.YteipeagdflcjjaaDoorSet
namespace Go.Proofs.YteipeagdflcjjaaDoor
open Go.RowKit
set_option linter.unusedSimpArgs false
set_option linter.unusedVariables false

def trav (M : ByteArray → ByteArray → Bool) (p : ByteArray) : List ByteArray → Bool × List ByteArray
  | [] => (false, [])
  | e :: q => if M p e = true then (true, q) else trav M p q
def gfold (M : ByteArray → ByteArray → Bool) (C : ByteArray → Bool) : List ByteArray → Bool → Bool → List ByteArray → Option (Bool × List ByteArray)
  | [], _, m, path => some (m, path)
  | p :: r, ct, m, path =>
    if nb p = [] then gfold M C r false m path
    else if nb p = [42, 42] then (if r = [] then some (m, path) else gfold M C r true m path)
    else if C p = true then none
    else match path with
      | [] => none
      | e :: q => if ct = true then gfold M C r false (trav M p (e :: q)).1 (trav M p (e :: q)).2
        else if M p e = true then gfold M C r false true q else none
def gres (dirOnly isDir : Bool) : Option (Bool × List ByteArray) → Bool
  | none => false
  | some (m, path) => m && !(dirOnly && !isDir && path.isEmpty)
def simple (M : ByteArray → ByteArray → Bool) (p : ByteArray) (dirOnly isDir : Bool) : List ByteArray → Bool
  | [] => false
  | e :: q => if M p e = true then !(dirOnly && !isDir && q.isEmpty) else simple M p dirOnly isDir q

theorem gfold_lost (M : ByteArray → ByteArray → Bool) (C : ByteArray → Bool) (L : List ByteArray) : ∀ ct R, gfold M C L ct false [] ≠ some (true, R) := by
  induction L with
  | nil => intro ct R h; cases h
  | cons p r ih =>
    intro ct R h
    unfold gfold at h
    split at h
    · exact ih _ _ h
    · split at h
      · split at h
        · cases h
        · exact ih _ _ h
      · split at h <;> cases h

theorem trav_more (M : ByteArray → ByteArray → Bool) (p : ByteArray) (more : List ByteArray) (l : List ByteArray) : (trav M p l).1 = true → trav M p (l ++ more) = (true, (trav M p l).2 ++ more) := by
  induction l with
  | nil => intro h; cases h
  | cons e q ih =>
    intro h
    unfold trav at h
    rw [List.cons_append]
    unfold trav
    split
    · rfl
    · rename_i hn
      rw [if_neg hn] at h
      exact ih h
theorem trav_lost (M : ByteArray → ByteArray → Bool) (p : ByteArray) (l : List ByteArray) : (trav M p l).1 = false → trav M p l = (false, []) := by
  induction l with
  | nil => intro h; rfl
  | cons e q ih =>
    intro h
    unfold trav at h ⊢
    split
    · rename_i hn
      rw [if_pos hn] at h
      cases h
    · rename_i hn
      rw [if_neg hn] at h
      exact ih h

theorem gfold_more (M : ByteArray → ByteArray → Bool) (C : ByteArray → Bool) (more : List ByteArray) (L : List ByteArray) : ∀ ct m path R, gfold M C L ct m path = some (true, R) → gfold M C L ct m (path ++ more) = some (true, R ++ more) := by
  induction L with
  | nil =>
    intro ct m path R h
    cases h
    rfl
  | cons p r ih =>
    intro ct m path R h
    unfold gfold at h ⊢
    split
    · rename_i h1
      rw [if_pos h1] at h
      exact ih _ _ _ _ h
    · rename_i h1
      rw [if_neg h1] at h
      split
      · rename_i h2
        rw [if_pos h2] at h
        split
        · rename_i h3
          rw [if_pos h3] at h
          cases h
          rfl
        · rename_i h3
          rw [if_neg h3] at h
          exact ih _ _ _ _ h
      · rename_i h2
        rw [if_neg h2] at h
        split
        · rename_i h3
          rw [if_pos h3] at h
          cases h
        · rename_i h3
          rw [if_neg h3] at h
          cases path with
          | nil => cases h
          | cons e q =>
            rw [List.cons_append]
            dsimp only at h ⊢
            cases ct with
            | true =>
              rw [if_pos rfl] at h ⊢
              cases hf : (trav M p (e :: q)).1 with
              | true =>
                have := trav_more M p more (e :: q) hf
                rw [List.cons_append] at this
                rw [this]
                rw [hf] at h
                exact ih _ _ _ _ h
              | false =>
                exfalso
                have := trav_lost M p (e :: q) hf
                rw [this] at h
                exact gfold_lost M C r _ _ h
            | false =>
              rw [if_neg (by decide)] at h ⊢
              split
              · rename_i h4
                rw [if_pos h4] at h
                exact ih _ _ _ _ h
              · rename_i h4
                rw [if_neg h4] at h
                cases h

theorem gres_more (M : ByteArray → ByteArray → Bool) (C : ByteArray → Bool) (L path more : List ByteArray) (d isDir : Bool) (hm : more ≠ []) (h : gres d true (gfold M C L false false path) = true) : gres d isDir (gfold M C L false false (path ++ more)) = true := by
  cases hg : gfold M C L false false path with
  | none => rw [hg] at h; cases h
  | some x =>
    obtain ⟨m, R⟩ := x
    rw [hg] at h
    have hm1 : m = true := by simp [gres] at h; exact h
    subst hm1
    rw [gfold_more M C more L _ _ _ _ hg]
    have : (R ++ more).isEmpty = false := by
      rw [List.isEmpty_eq_false_iff]
      intro e
      exact hm (List.append_eq_nil_iff.mp e).2
    simp [gres, this]

theorem simple_more (M : ByteArray → ByteArray → Bool) (p : ByteArray) (more : List ByteArray) (d isDir : Bool) (hm : more ≠ []) (path : List ByteArray) : simple M p d true path = true → simple M p d isDir (path ++ more) = true := by
  induction path with
  | nil => intro h; cases h
  | cons e q ih =>
    intro h
    unfold simple at h
    rw [List.cons_append]
    unfold simple
    split
    · have : (q ++ more).isEmpty = false := by
        rw [List.isEmpty_eq_false_iff]
        intro e
        exact hm (List.append_eq_nil_iff.mp e).2
      simp [this]
    · rename_i hn
      rw [if_neg hn] at h
      exact ih h

/-! ## Parting at the strokes -/
def stepS (st : List (List Nat) × List Nat) (c : Nat) : List (List Nat) × List Nat := if c = 47 then (st.1 ++ [st.2], []) else (st.1, st.2 ++ [c])
def runS (l : List Nat) : List (List Nat) × List Nat := l.foldl stepS ([], [])
def splitN (l : List Nat) : List (List Nat) := (runS l).1 ++ [(runS l).2]
theorem runS_snoc (l : List Nat) (c : Nat) : runS (l ++ [c]) = stepS (runS l) c := by
  unfold runS; rw [List.foldl_append]; rfl
theorem foldS_plain (p : List Nat) (h : ∀ c ∈ p, c ≠ 47) : ∀ d cur, p.foldl stepS (d, cur) = (d, cur ++ p) := by
  induction p with
  | nil => intro d cur; simp
  | cons a r ih =>
    intro d cur
    rw [List.foldl_cons]
    have ha : a ≠ 47 := h a (by simp)
    have : stepS (d, cur) a = (d, cur ++ [a]) := by unfold stepS; rw [if_neg ha]
    rw [this, ih (fun c hc => h c (by simp [hc]))]
    simp
theorem splitN_one (p : List Nat) (h : ∀ c ∈ p, c ≠ 47) : splitN p = [p] := by
  unfold splitN runS
  rw [foldS_plain p h]
  simp
theorem splitN_join (l p : List Nat) (h : ∀ c ∈ p, c ≠ 47) : splitN (l ++ [47] ++ p) = splitN l ++ [p] := by
  have e : runS (l ++ [47] ++ p) = (splitN l, p) := by
    unfold runS
    rw [List.foldl_append]
    have := runS_snoc l 47
    unfold runS at this
    rw [this]
    have h2 : stepS (List.foldl stepS ([], []) l) 47 = (splitN l, []) := rfl
    rw [h2, foldS_plain p h]
    rfl
  conv => lhs; unfold splitN
  rw [e]
/-- More than one part just if a stroke stands in it. -/
theorem foldS_len (l : List Nat) : ∀ d cur, d.length ≤ (l.foldl stepS (d, cur)).1.length ∧ (47 ∈ l → d.length < (l.foldl stepS (d, cur)).1.length) := by
  induction l with
  | nil => intro d cur; exact ⟨Nat.le_refl _, fun h => by cases h⟩
  | cons c l ih =>
    intro d cur
    rw [List.foldl_cons]
    by_cases hc : c = 47
    · have : stepS (d, cur) c = (d ++ [cur], []) := by unfold stepS; rw [if_pos hc]
      rw [this]
      obtain ⟨h1, _⟩ := ih (d ++ [cur]) []
      rw [List.length_append] at h1
      simp at h1
      exact ⟨by omega, fun _ => by omega⟩
    · have : stepS (d, cur) c = (d, cur ++ [c]) := by unfold stepS; rw [if_neg hc]
      rw [this]
      obtain ⟨h1, h2⟩ := ih d (cur ++ [c])
      refine ⟨h1, fun h => h2 ?_⟩
      rcases List.mem_cons.mp h with h | h
      · exact absurd h.symm hc
      · exact h
theorem splitN_has (l : List Nat) : (47 ∈ l) ↔ 2 ≤ (splitN l).length := by
  constructor
  · intro h
    have := (foldS_len l [] []).2 h
    unfold splitN runS
    rw [List.length_append]
    simp at this ⊢
    omega
  · intro h
    by_cases hc : 47 ∈ l
    · exact hc
    · rw [splitN_one l (fun c hm e => hc (e ▸ hm))] at h
      simp at h
end Go.Proofs.YteipeagdflcjjaaDoor
