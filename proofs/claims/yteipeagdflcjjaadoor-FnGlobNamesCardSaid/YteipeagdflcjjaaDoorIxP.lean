/- index's matcher: its rounds, in plain Lean. -/
import Derived.Test.YteipeagdflcjjaaDoorGName
import Derived.Test.YteipeagdflcjjaaDoorMatchP
namespace Go.Proofs.YteipeagdflcjjaaDoor.Ix
open Go.RowKit
set_option linter.unusedSimpArgs false
set_option linter.unusedVariables false

/-- A sign of a pattern of names of files: of a part, or the stroke between two. -/
def gd (t : Tok) : Prop := t.good ∨ t = .lit 47
theorem gd_gR {t : Tok} (h : gd t) : t.gR := by
  rcases h with h | rfl
  · exact good_gR h
  · unfold Tok.gR; dsimp only; omega
theorem scan_tokG (t : Tok) (r : List Nat) (hg : gd t) (hs : t.isStar = false) : scanI (t.text ++ r) false = t.text.length + scanI r false := by
  rcases hg with hg | rfl
  · exact scan_tok t r hg hs
  · exact scan_plain [47] r false (by simp)
theorem head_textG (t : Tok) (hg : gd t) (r : List Nat) : (t.isStar = true ∧ (t.text ++ r) = 42 :: r) ∨ (t.isStar = false ∧ ∃ c l, t.text ++ r = c :: l ∧ c ≠ 42) := by
  rcases hg with hg | rfl
  · exact head_text t hg r
  · exact .inr ⟨rfl, 47, r, rfl, by decide⟩
/-- The chunk's end, at a text of signs. -/
theorem scan_textsG (T : List Tok) (hg : ∀ t ∈ T, gd t) : scanI (texts T) false = (texts (T.takeWhile notStar)).length := by
  induction T with
  | nil => rfl
  | cons t r ih =>
    have ht := hg t (by simp)
    rw [texts_cons]
    cases hs : t.isStar with
    | true =>
      have : t = .star := by cases t <;> first | rfl | cases hs
      subst this
      rw [show Tok.star.text ++ texts r = 42 :: texts r from rfl, scanI.eq_def, List.takeWhile_cons_of_neg (by simp [notStar, Tok.isStar])]
      simp [texts]
    | false =>
      rw [scan_tokG t _ ht hs, ih (fun x hx => hg x (by simp [hx])), List.takeWhile_cons_of_pos (by unfold notStar; rw [hs]; rfl), texts_cons, List.length_append]
theorem take_textsG (T : List Tok) (hg : ∀ t ∈ T, gd t) : (texts T).take (scanI (texts T) false) = texts (T.takeWhile notStar) ∧ (texts T).drop (scanI (texts T) false) = texts (T.dropWhile notStar) := by
  rw [scan_textsG T hg]
  have e : texts T = texts (T.takeWhile notStar) ++ texts (T.dropWhile notStar) := by rw [← texts_append, List.takeWhile_append_dropWhile]
  constructor
  · conv => lhs; rw [e]
    rw [List.take_left]
  · conv => lhs; rw [e]
    rw [List.drop_left]
/-- Signs behind the stars that were struck. -/
structure Strip (T B : List Tok) (pb : ByteArray) (b : Bool) : Prop where
  text : nb pb = texts B
  same : noStars B = noStars T
  yes : b = true → stars T = true
  no : b = false → B = T
  good : ∀ t ∈ B, gd t
  small : pb.size ≤ 1000
theorem Strip.step {T B : List Tok} {x : Tok} {pb : ByteArray} {b : Bool} (h : Strip T (x :: B) pb b) (hx : x.isStar = true) : Strip T B (pb.extract 1 pb.size) true := by
  have e : x.text = [42] := by cases x <;> first | rfl | cases hx
  refine ⟨?_, ?_, fun _ => ?_, fun h => (by cases h), fun t ht => h.good t (by simp [ht]), by rw [size_tail]; have := h.small; omega⟩
  · rw [nb_tail, h.text, texts_cons, e]; rfl
  · rw [← h.same, noStars_head x B hx]
  · cases b with
    | true => exact h.yes rfl
    | false => rw [← h.no rfl]; exact hx
/-- At the end: what is left begins with no star. -/
theorem Strip.fin {T B : List Tok} {pb : ByteArray} {b : Bool} (h : Strip T B pb b) (hB : noStars B = B) : nb pb = texts (noStars T) ∧ b = stars T := by
  refine ⟨by rw [← h.same, hB]; exact h.text, ?_⟩
  cases b with
  | true => exact (h.yes rfl).symm
  | false =>
    rw [← h.no rfl]
    cases B with
    | nil => rfl
    | cons x B =>
      show false = x.isStar
      cases hx : x.isStar with
      | false => rfl
      | true =>
        exfalso
        rw [noStars_head x B hx] at hB
        have h1 := congrArg List.length hB
        have h2 : (noStars B).length ≤ B.length := (List.dropWhile_sublist _).length_le
        simp at h1
        omega
theorem good_noStars {T : List Tok} (h : ∀ t ∈ T, gd t) : ∀ t ∈ noStars T, gd t := fun t ht => h t ((List.dropWhile_sublist _).mem ht)
theorem good_chOf {T : List Tok} (h : ∀ t ∈ T, gd t) : ∀ t ∈ chOf T, gd t ∧ t.isStar = false := by
  intro t ht
  refine ⟨good_noStars h t ((List.takeWhile_sublist _).mem ht), ?_⟩
  have := List.all_takeWhile (p := notStar) (l := noStars T)
  have := List.all_eq_true.mp this t ht
  unfold notStar at this
  cases hx : t.isStar with
  | false => rfl
  | true => rw [hx] at this; cases this
theorem good_restOf {T : List Tok} (h : ∀ t ∈ T, gd t) : ∀ t ∈ restOf T, gd t := fun t ht => good_noStars h t ((List.dropWhile_sublist _).mem ht)
theorem chunk_parts {pb : ByteArray} {T : List Tok} (h : nb pb = texts (noStars T)) (hg : ∀ t ∈ T, gd t) :
    nb (pb.extract 0 (scanI (nb pb) false)) = texts (chOf T) ∧ nb (pb.extract (scanI (nb pb) false) pb.size) = texts (restOf T) ∧ scanI (nb pb) false ≤ pb.size := by
  obtain ⟨h1, h2⟩ := take_textsG (noStars T) (good_noStars hg)
  rw [← h] at h1 h2
  refine ⟨by rw [nb_extract, List.drop_zero, Nat.sub_zero]; exact h1, by rw [nb_tail]; exact h2, ?_⟩
  have h3 := scan_textsG (noStars T) (good_noStars hg)
  rw [← h] at h3
  have h4 := congrArg List.length h
  rw [nb_length] at h4
  rw [h3, h4]
  have h5 : texts (noStars T) = texts (chOf T) ++ texts (restOf T) := by rw [← texts_append]; unfold chOf restOf; rw [List.takeWhile_append_dropWhile]
  rw [h5, List.length_append]
  exact Nat.le_add_right _ _
theorem foP_yes {P : Tok → Nat → Bool} {star : Bool} {ch : List Tok} {fin : Bool} {s : List Nat} {u : ByteArray} (h : chP P ch s = some (nb u)) (ht : taken fin u = true) : foP P star ch fin s = some (nb u) := by
  unfold foP
  rw [h]
  exact if_neg ((taken_iff _ _).mp ht)
theorem foP_no {P : Tok → Nat → Bool} {star : Bool} {ch : List Tok} {fin : Bool} {s : List Nat} (h : chP P ch s = none ∨ ∃ u : ByteArray, chP P ch s = some (nb u) ∧ taken fin u = false) : foP P star ch fin s = if star = true then srP P ch fin s else none := by
  unfold foP
  rcases h with h | ⟨u, h, ht⟩
  · rw [h]
  · rw [h]
    refine if_pos ?_
    by_cases hc : fin = true ∧ nb u ≠ []
    · exact hc
    · rw [(taken_iff _ _).mpr hc] at ht; cases ht
theorem srP_yes {P : Tok → Nat → Bool} {ch : List Tok} {fin : Bool} {c : Nat} {s : List Nat} {u : ByteArray} (h : chP P ch s = some (nb u)) (ht : taken fin u = true) : srP P ch fin (c :: s) = some (nb u) := by
  unfold srP
  rw [h]
  exact if_neg ((taken_iff _ _).mp ht)
theorem srP_no {P : Tok → Nat → Bool} {ch : List Tok} {fin : Bool} {c : Nat} {s : List Nat} (h : chP P ch s = none ∨ ∃ u : ByteArray, chP P ch s = some (nb u) ∧ taken fin u = false) : srP P ch fin (c :: s) = srP P ch fin s := by
  conv => lhs; unfold srP
  rcases h with h | ⟨u, h, ht⟩
  · rw [h]
  · rw [h]
    refine if_pos ?_
    by_cases hc : fin = true ∧ nb u ≠ []
    · exact hc
    · rw [(taken_iff _ _).mpr hc] at ht; cases ht

/-- A chunk and what it is read against. -/
structure CSt (G : Option (List Nat)) (T : List Tok) (cb sb : ByteArray) : Prop where
  text : nb cb = texts T
  good : ∀ t ∈ T, gd t ∧ t.isStar = false
  asc : Asc sb
  cs : cb.size ≤ 1000
  ss : sb.size ≤ 1000
  res : G = chP hasR T (nb sb)
theorem CSt.none {G : Option (List Nat)} {t : Tok} {r : List Tok} {cb sb : ByteArray} (h : CSt G (t :: r) cb sb) (hz : sb.size = 0) : G = none := by
  rw [h.res, nb_nil hz]; rfl
theorem CSt.one {G : Option (List Nat)} {t : Tok} {r : List Tok} {cb sb : ByteArray} (h : CSt G (t :: r) cb sb) (hz : 1 ≤ sb.size) : G = if hasR t (bx sb 0) = true then chP hasR r (nb (sb.extract 1 sb.size)) else Option.none := by
  rw [h.res, nb_cons sb hz]; rfl
theorem CSt.step {G : Option (List Nat)} {t : Tok} {r : List Tok} {cb cb' sb : ByteArray} (h : CSt G (t :: r) cb sb) (ht : nb cb' = texts r) (hc : cb'.size ≤ 1000) (hz : 1 ≤ sb.size) (hh : hasR t (bx sb 0) = true) : CSt G r cb' (sb.extract 1 sb.size) :=
  ⟨ht, fun x hx => h.good x (by simp [hx]), h.asc.extract _ _, hc, by rw [size_tail]; have := h.ss; omega, by rw [h.one hz, if_pos hh]⟩
theorem CSt.stop {G : Option (List Nat)} {t : Tok} {r : List Tok} {cb sb : ByteArray} (h : CSt G (t :: r) cb sb) (hz : 1 ≤ sb.size) (hh : hasR t (bx sb 0) = false) : G = Option.none := by
  rw [h.one hz, if_neg (by rw [hh]; decide)]
def IChunkPost (T : List Tok) (sb0 : ByteArray) (w : World) (e : Ending) (w' : World) : Prop := Below w.heap.size w w' ∧
  ((chP hasR T (nb sb0) = none ∧ e = .returned (.tuple #[.string ⟨#[]⟩, .bool false, .nilIface])) ∨ ∃ u : ByteArray, chP hasR T (nb sb0) = some (nb u) ∧ Asc u ∧ u.size ≤ 1000 ∧ e = .returned (.tuple #[.string u, .bool true, .nilIface]))

/-- A pattern and what it is read against. -/
structure ISt (G : Bool) (T : List Tok) (pb sb : ByteArray) : Prop where
  text : nb pb = texts T
  good : ∀ t ∈ T, gd t
  ps : pb.size ≤ 1000
  asc : Asc sb
  ss : sb.size ≤ 1000
  res : G = gn hasR T (nb sb)
theorem ISt.more {G : Bool} {t : Tok} {r : List Tok} {pb sb pb' u : ByteArray} (h : ISt G (t :: r) pb sb) (ht : nb pb' = texts (restOf (t :: r))) (hp : pb'.size ≤ 1000) (ha : Asc u) (hu : u.size ≤ 1000) (hf : foP hasR t.isStar (chOf (t :: r)) (restOf (t :: r)).isEmpty (nb sb) = some (nb u)) : ISt G (restOf (t :: r)) pb' u :=
  ⟨ht, good_restOf h.good, hp, ha, hu, by
    rw [h.res, ← gg_round hasR t r (nb sb)]
    unfold chOf restOf noStars at hf
    rw [hf]; rfl⟩
theorem ISt.stop {G : Bool} {t : Tok} {r : List Tok} {pb sb : ByteArray} (h : ISt G (t :: r) pb sb) (hf : foP hasR t.isStar (chOf (t :: r)) (restOf (t :: r)).isEmpty (nb sb) = none) : G = false := by
  rw [h.res, ← gg_round hasR t r (nb sb)]
  unfold chOf restOf noStars at hf
  rw [hf]
end Go.Proofs.YteipeagdflcjjaaDoor.Ix
