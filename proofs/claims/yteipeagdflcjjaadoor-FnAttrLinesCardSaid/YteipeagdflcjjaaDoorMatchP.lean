/- The matcher's rounds, in plain Lean. -/
import Derived.Test.YteipeagdflcjjaaDoorChunk
namespace Go.Proofs.YteipeagdflcjjaaDoor
open Go.RowKit
set_option linter.unusedSimpArgs false
set_option linter.unusedVariables false

theorem chM_suffix (ch : List Tok) : ∀ s u, chM ch s = some u → ∃ k, u = s.drop k := by
  induction ch with
  | nil => intro s u h; cases h; exact ⟨0, rfl⟩
  | cons t r ih =>
    intro s u h
    cases s with
    | nil => cases h
    | cons c s =>
      unfold chM at h
      split at h
      · obtain ⟨k, hk⟩ := ih s u h
        exact ⟨k + 1, by rw [hk]; rfl⟩
      · cases h

/-- A name: no strokes, nothing but signs below 128. -/
structure Nm (s : ByteArray) : Prop where
  all : ∀ c ∈ nb s, c < 128 ∧ c ≠ 47
  small : s.size ≤ 1000
theorem Nm.asc {s : ByteArray} (h : Nm s) : Asc s := asc_of fun c hc => (h.all c hc).1
theorem Nm.at {s : ByteArray} (h : Nm s) (k : Nat) (hk : k < s.size) : bx s k < 128 ∧ bx s k ≠ 47 := h.all _ (by
  rw [← bx_getElem s k (by rw [nb_length]; exact hk)]; exact List.getElem_mem _)
theorem Nm.sub {s u : ByteArray} (h : Nm s) {k : Nat} (e : nb u = (nb s).drop k) : Nm u := by
  refine ⟨fun c hc => h.all c (List.mem_of_mem_drop (e ▸ hc)), ?_⟩
  rw [← nb_length, e, List.length_drop, nb_length]
  have := h.small
  omega
theorem Nm.tail {s : ByteArray} (h : Nm s) (k : Nat) : Nm (s.extract k s.size) := h.sub (nb_tail s k)
theorem Nm.not47 {s : ByteArray} (h : Nm s) : (nb s).contains 47 = false := by
  rw [Bool.eq_false_iff]
  intro e
  exact (h.all 47 (by simpa using e)).2 rfl
theorem Nm.chunk {s u : ByteArray} (h : Nm s) {ch : List Tok} (e : chM ch (nb s) = some (nb u)) : Nm u := by
  obtain ⟨k, hk⟩ := chM_suffix _ _ _ e
  exact h.sub hk

def noStars (T : List Tok) : List Tok := T.dropWhile Tok.isStar
def chOf (T : List Tok) : List Tok := (noStars T).takeWhile notStar
def restOf (T : List Tok) : List Tok := (noStars T).dropWhile notStar

theorem gm_nil (n : Nat) (s : List Nat) : gm (n + 1) [] s = s.isEmpty := rfl
theorem gm_one (n : Nat) (t : Tok) (r : List Tok) (s : List Nat) (h : (t.isStar && (chOf (t :: r)).isEmpty) = true) : gm (n + 1) (t :: r) s = !(s.contains 47) := by
  rw [Bool.and_eq_true, List.isEmpty_iff] at h
  unfold gm
  exact if_pos h
theorem gm_more (n : Nat) (t : Tok) (r : List Tok) (s : List Nat) (h : (t.isStar && (chOf (t :: r)).isEmpty) = false) : gm (n + 1) (t :: r) s = match firstOk t.isStar (chOf (t :: r)) (restOf (t :: r)).isEmpty s with
    | some u => gm n (restOf (t :: r)) u
    | none => false := by
  have h2 : ¬ (t.isStar = true ∧ chOf (t :: r) = []) := by
    intro e
    rw [e.1, e.2] at h
    cases h
  conv => lhs; unfold gm
  exact if_neg h2

/-- Is the rest that a chunk leaves taken? -/
def taken (fin : Bool) (u : ByteArray) : Bool := (u.size == 0) || !fin
theorem taken_iff (fin : Bool) (u : ByteArray) : taken fin u = true ↔ ¬ (fin = true ∧ nb u ≠ []) := by
  unfold taken
  have : nb u = [] ↔ u.size = 0 := ⟨size_nil, nb_nil⟩
  cases fin <;> simp [this]
theorem firstOk_yes {star : Bool} {ch : List Tok} {fin : Bool} {s : List Nat} {u : ByteArray} (h : chM ch s = some (nb u)) (ht : taken fin u = true) : firstOk star ch fin s = some (nb u) := by
  unfold firstOk
  rw [h]
  exact if_neg ((taken_iff _ _).mp ht)
theorem firstOk_no {star : Bool} {ch : List Tok} {fin : Bool} {s : List Nat} (h : chM ch s = none ∨ ∃ u : ByteArray, chM ch s = some (nb u) ∧ taken fin u = false) : firstOk star ch fin s = if star = true then srch ch fin s else none := by
  unfold firstOk
  rcases h with h | ⟨u, h, ht⟩
  · rw [h]
  · rw [h]
    refine if_pos ?_
    by_cases hc : fin = true ∧ nb u ≠ []
    · exact hc
    · rw [(taken_iff _ _).mpr hc] at ht; cases ht
theorem srch_yes {ch : List Tok} {fin : Bool} {c : Nat} {s : List Nat} {u : ByteArray} (hc : c ≠ 47) (h : chM ch s = some (nb u)) (ht : taken fin u = true) : srch ch fin (c :: s) = some (nb u) := by
  unfold srch
  rw [if_neg hc, h]
  exact if_neg ((taken_iff _ _).mp ht)
theorem srch_no {ch : List Tok} {fin : Bool} {c : Nat} {s : List Nat} (hc : c ≠ 47) (h : chM ch s = none ∨ ∃ u : ByteArray, chM ch s = some (nb u) ∧ taken fin u = false) : srch ch fin (c :: s) = srch ch fin s := by
  conv => lhs; unfold srch
  rw [if_neg hc]
  rcases h with h | ⟨u, h, ht⟩
  · rw [h]
  · rw [h]
    refine if_pos ?_
    by_cases hc : fin = true ∧ nb u ≠ []
    · exact hc
    · rw [(taken_iff _ _).mpr hc] at ht; cases ht

theorem split_all (t : Tok) (r : List Tok) : ∃ A, A ≠ [] ∧ t :: r = A ++ restOf (t :: r) := by
  have h1 : (t :: r).takeWhile Tok.isStar ++ noStars (t :: r) = t :: r := List.takeWhile_append_dropWhile
  have h2 : chOf (t :: r) ++ restOf (t :: r) = noStars (t :: r) := List.takeWhile_append_dropWhile
  refine ⟨(t :: r).takeWhile Tok.isStar ++ chOf (t :: r), ?_, by rw [List.append_assoc, h2, h1]⟩
  intro e
  obtain ⟨e1, e2⟩ := List.append_eq_nil_iff.mp e
  cases hs : t.isStar with
  | true => rw [List.takeWhile_cons_of_pos hs] at e1; cases e1
  | false =>
    unfold chOf noStars at e2
    rw [List.dropWhile_cons_of_neg (by rw [hs]; decide), List.takeWhile_cons_of_pos (by unfold notStar; rw [hs]; rfl)] at e2
    cases e2
theorem rest_len (t : Tok) (r : List Tok) : (restOf (t :: r)).length ≤ r.length := by
  obtain ⟨A, hA, e⟩ := split_all t r
  have := congrArg List.length e
  rw [List.length_append, List.length_cons] at this
  have := List.length_pos_iff.mpr hA
  omega
theorem rest_text (t : Tok) (r : List Tok) : (texts (restOf (t :: r))).length < (texts (t :: r)).length := by
  obtain ⟨A, hA, e⟩ := split_all t r
  have h2 : texts (t :: r) = texts A ++ texts (restOf (t :: r)) := by
    conv => lhs; rw [e]
    rw [texts_append]
  rw [h2, List.length_append]
  have : (texts A).length ≠ 0 := by
    intro h
    exact hA ((texts_nil_iff A).mp (List.length_eq_zero_iff.mp h))
  omega

/-- Signs behind the stars that were struck. -/
structure Strip (T B : List Tok) (pb : ByteArray) (b : Bool) : Prop where
  text : nb pb = texts B
  same : noStars B = noStars T
  yes : b = true → stars T = true
  no : b = false → B = T
  good : ∀ t ∈ B, Tok.good t
  small : pb.size ≤ 1000
theorem noStars_head (x : Tok) (B : List Tok) (h : x.isStar = true) : noStars (x :: B) = noStars B := List.dropWhile_cons_of_pos h
theorem noStars_none (x : Tok) (B : List Tok) (h : x.isStar = false) : noStars (x :: B) = x :: B := List.dropWhile_cons_of_neg (by rw [h]; decide)
theorem Strip.step {T B : List Tok} {x : Tok} {pb : ByteArray} {b : Bool} (h : Strip T (x :: B) pb b) (hx : x.isStar = true) : Strip T B (pb.extract 1 pb.size) true := by
  have e : x.text = [42] := by cases x <;> first | rfl | cases hx
  refine ⟨?_, ?_, fun _ => ?_, fun h => (by cases h), fun t ht => h.good t (by simp [ht]), by rw [size_tail]; have := h.small; omega⟩
  · rw [nb_tail, h.text, texts_cons, e]; rfl
  · rw [← h.same, noStars_head x B hx]
  · cases b with
    | true => exact h.yes rfl
    | false => rw [← h.no rfl]; exact hx
/-- At the end: what is left begins with no star. -/
theorem Strip.fin {T B : List Tok} {pb : ByteArray} {b : Bool} (h : Strip T B pb b) (hB : noStars B = B) : nb pb = texts (noStars T) ∧ b = stars T := by
  refine ⟨by rw [← h.same, hB]; exact h.text, ?_⟩
  cases b with
  | true => exact (h.yes rfl).symm
  | false =>
    rw [← h.no rfl]
    cases B with
    | nil => rfl
    | cons x B =>
      show false = x.isStar
      cases hx : x.isStar with
      | false => rfl
      | true =>
        exfalso
        rw [noStars_head x B hx] at hB
        have h1 := congrArg List.length hB
        have h2 : (noStars B).length ≤ B.length := (List.dropWhile_sublist _).length_le
        simp at h1
        omega
theorem good_noStars {T : List Tok} (h : ∀ t ∈ T, Tok.good t) : ∀ t ∈ noStars T, Tok.good t := fun t ht => h t ((List.dropWhile_sublist _).mem ht)
theorem good_chOf {T : List Tok} (h : ∀ t ∈ T, Tok.good t) : ∀ t ∈ chOf T, Tok.good t ∧ t.isStar = false := by
  intro t ht
  refine ⟨good_noStars h t ((List.takeWhile_sublist _).mem ht), ?_⟩
  have := List.all_takeWhile (p := notStar) (l := noStars T)
  have := List.all_eq_true.mp this t ht
  unfold notStar at this
  cases hx : t.isStar with
  | false => rfl
  | true => rw [hx] at this; cases this
theorem good_restOf {T : List Tok} (h : ∀ t ∈ T, Tok.good t) : ∀ t ∈ restOf T, Tok.good t := fun t ht => good_noStars h t ((List.dropWhile_sublist _).mem ht)

theorem chunk_parts {pb : ByteArray} {T : List Tok} (h : nb pb = texts (noStars T)) (hg : ∀ t ∈ T, Tok.good t) :
    nb (pb.extract 0 (scanI (nb pb) false)) = texts (chOf T) ∧ nb (pb.extract (scanI (nb pb) false) pb.size) = texts (restOf T) ∧ scanI (nb pb) false ≤ pb.size := by
  obtain ⟨h1, h2⟩ := take_texts (noStars T) (good_noStars hg)
  rw [← h] at h1 h2
  refine ⟨by rw [nb_extract, List.drop_zero, Nat.sub_zero]; exact h1, by rw [nb_tail]; exact h2, ?_⟩
  have h3 := scan_texts (noStars T) (good_noStars hg)
  rw [← h] at h3
  have h4 := congrArg List.length h
  rw [nb_length] at h4
  rw [h3, h4]
  have h5 : texts (noStars T) = texts (chOf T) ++ texts (restOf T) := by rw [← texts_append]; unfold chOf restOf; rw [List.takeWhile_append_dropWhile]
  rw [h5, List.length_append]
  exact Nat.le_add_right _ _

/-! ## The search for a chunk's end, place by place -/
structure Scan (pb : ByteArray) (i : Nat) (inr : Bool) : Prop where
  le : i ≤ pb.size
  at_ : scanI (nb pb) false = i + scanI ((nb pb).drop i) inr
theorem Scan.start (pb : ByteArray) : Scan pb 0 false := ⟨Nat.zero_le _, by simp⟩
theorem Scan.end_ {pb : ByteArray} {i : Nat} {inr : Bool} (h : Scan pb i inr) (hi : ¬ i < pb.size) : scanI (nb pb) false = i := by
  have := h.at_
  rw [List.drop_eq_nil_of_le (by rw [nb_length]; omega)] at this
  exact this
theorem drop_bx (pb : ByteArray) (i : Nat) (h : i < pb.size) : (nb pb).drop i = bx pb i :: (nb pb).drop (i + 1) := by
  rw [List.drop_eq_getElem_cons (by rw [nb_length]; exact h), bx_getElem]
theorem scanI_cons (c : Nat) (r : List Nat) (inr : Bool) : scanI (c :: r) inr =
    if c = 92 then (match r with
      | [] => 1
      | _ :: r' => 2 + scanI r' inr)
    else if c = 91 then 1 + scanI r true
    else if c = 93 then 1 + scanI r false
    else if c = 42 then (if inr = true then 1 + scanI r inr else 0)
    else 1 + scanI r inr := by
  rw [scanI.eq_def]
  rfl
theorem Scan.stop {pb : ByteArray} {i : Nat} (h : Scan pb i false) (hi : i < pb.size) (hc : bx pb i = 42) : scanI (nb pb) false = i := by
  have := h.at_
  rw [drop_bx pb i hi, hc, scanI_cons] at this
  simpa using this
theorem Scan.esc {pb : ByteArray} {i : Nat} {inr : Bool} (h : Scan pb i inr) (hi : i + 1 < pb.size) (hc : bx pb i = 92) : Scan pb (i + 2) inr := by
  refine ⟨by omega, ?_⟩
  have := h.at_
  rw [drop_bx pb i (by omega), hc, drop_bx pb (i + 1) hi, scanI_cons] at this
  rw [if_pos rfl] at this
  dsimp only at this
  show scanI (nb pb) false = i + 1 + 1 + scanI ((nb pb).drop (i + 1 + 1)) inr
  omega
theorem Scan.esc1 {pb : ByteArray} {i : Nat} {inr : Bool} (h : Scan pb i inr) (hi : i < pb.size) (hl : ¬ i + 1 < pb.size) (hc : bx pb i = 92) : Scan pb (i + 1) inr := by
  refine ⟨by omega, ?_⟩
  have := h.at_
  rw [drop_bx pb i (by omega), hc, List.drop_eq_nil_of_le (by rw [nb_length]; omega), scanI_cons] at this
  rw [if_pos rfl] at this
  dsimp only at this
  rw [List.drop_eq_nil_of_le (by rw [nb_length]; omega)]
  exact this
theorem Scan.next {pb : ByteArray} {i : Nat} {inr inr' : Bool} (h : Scan pb i inr) (hi : i < pb.size) (h1 : bx pb i ≠ 92) (h2 : inr' = if bx pb i = 91 then true else if bx pb i = 93 then false else inr) (h3 : bx pb i = 42 → inr = true) : Scan pb (i + 1) inr' := by
  refine ⟨by omega, ?_⟩
  have := h.at_
  rw [drop_bx pb i hi, scanI_cons] at this
  rw [if_neg h1] at this
  rw [h2]
  by_cases h91 : bx pb i = 91
  · rw [if_pos h91] at this ⊢; omega
  · rw [if_neg h91] at this ⊢
    by_cases h93 : bx pb i = 93
    · rw [if_pos h93] at this ⊢; omega
    · rw [if_neg h93] at this ⊢
      by_cases h42 : bx pb i = 42
      · have hi := h3 h42
        subst hi
        rw [if_pos h42, if_pos rfl] at this; omega
      · rw [if_neg h42] at this; omega
end Go.Proofs.YteipeagdflcjjaaDoor
