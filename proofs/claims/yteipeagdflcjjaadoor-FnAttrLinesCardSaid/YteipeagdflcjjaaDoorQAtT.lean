/- A line of attributes as text: its fields, what they are read as. Plain. -/
import Derived.Test.YteipeagdflcjjaaDoorQAtG
import Derived.Test.YteipeagdflcjjaaDoorQAwakeG
namespace Go.Proofs.YteipeagdflcjjaaDoor
open Go.RowKit
set_option linter.unusedSimpArgs false
set_option linter.unusedVariables false

theorem getD_left (l m : List Nat) (i : Nat) (h : i < l.length) : (l ++ m).getD i 0 = l.getD i 0 := by
  rw [List.getD_eq_getElem?_getD, List.getElem?_append_left h, List.getD_eq_getElem?_getD]
theorem getD_right (l m : List Nat) (i : Nat) (h : l.length ≤ i) : (l ++ m).getD i 0 = m.getD (i - l.length) 0 := by
  rw [List.getD_eq_getElem?_getD, List.getElem?_append_right h, List.getD_eq_getElem?_getD]
def bs (l : List Nat) : ByteArray := ⟨(l.map UInt8.ofNat).toArray⟩
theorem nb_bs (l : List Nat) (h : ∀ c ∈ l, c < 256) : nb (bs l) = l := by
  unfold bs
  rw [nb_mk, List.map_map]
  conv => rhs; rw [← List.map_id l]
  refine List.map_congr_left fun c hc => ?_
  have := h c hc
  simp [Nat.mod_eq_of_lt this]
theorem bs_nb (s : ByteArray) : bs (nb s) = s := nb_inj (nb_bs _ fun c hc => nb_lt hc)
theorem bx_mem {s : ByteArray} {j : Nat} (h : j < s.size) : bx s j ∈ nb s := by
  have h' : j < (nb s).length := by rw [nb_length]; exact h
  rw [← bx_getElem s j h']; exact List.getElem_mem h'
theorem mem_bx {s : ByteArray} {c : Nat} (h : c ∈ nb s) : ∃ j, j < s.size ∧ bx s j = c := by
  obtain ⟨j, hj, e⟩ := List.getElem_of_mem h
  exact ⟨j, by rw [← nb_length]; exact hj, by rw [← bx_getElem s j hj]; exact e⟩

theorem word_range {s : ByteArray} (h : IsWord s) : ∀ c ∈ nb s, 45 ≤ c ∧ c ≤ 122 ∧ c ≠ 61 ∧ c ≠ 47 := by
  intro c hc
  obtain ⟨j, hj, rfl⟩ := mem_bx hc
  have := h.1 j hj
  unfold WordAt at this
  omega
theorem word_first {s : ByteArray} (h : IsWord s) : 97 ≤ bx s 0 ∧ bx s 0 ≤ 122 := by
  have := h.1 0 (by have := h.2.1; omega)
  unfold WordAt at this
  omega
theorem word_okN {s : ByteArray} (h : IsWord s) : vname s = true := by
  refine vname_yes (by have := h.2.1; omega) (by have := word_first h; omega) fun j hj => ?_
  have := h.1 j hj
  unfold WordAt at this
  unfold okN
  simp only [decide_eq_true_eq, Bool.or_eq_true, Bool.and_eq_true]
  omega

def readOf (a : AttrT) : AttrT := (a.1, (if a.2.1 = 0 then 33 else if a.2.1 = 1 then 1 else if a.2.1 = 2 then 45 else 61), if a.2.1 = 3 then a.2.2 else ⟨#[]⟩)
theorem readOf_st {a : AttrT} (h : GoodA a) : stN (readOf a).2.1 = a.2.1 := by
  obtain ⟨_, h3, _⟩ := h
  unfold readOf stN
  dsimp only
  repeat' split
  all_goals omega
theorem gaText_range {a : AttrT} (h : GoodA a) : ∀ c ∈ gaText a, 33 ≤ c ∧ c ≤ 122 := by
  intro c hc
  have w1 := word_range h.1
  unfold gaText at hc
  split at hc
  · rcases List.mem_cons.mp hc with rfl | hc
    · omega
    · have := w1 c hc; omega
  · split at hc
    · have := w1 c hc; omega
    · split at hc
      · rcases List.mem_cons.mp hc with rfl | hc
        · omega
        · have := w1 c hc; omega
      · have h3 : a.2.1 = 3 := by have := h.2.1; omega
        have w3 := word_range (h.2.2.1 h3)
        rcases List.mem_append.mp hc with hc | hc
        · have := w1 c hc; omega
        · rcases List.mem_cons.mp hc with rfl | hc
          · omega
          · have := w3 c hc; omega
theorem gaText_len {a : AttrT} (h : GoodA a) : 1 ≤ (gaText a).length ∧ (gaText a).length ≤ 62 := by
  have l1 : 1 ≤ (nb a.1).length ∧ (nb a.1).length ≤ 30 := by rw [nb_length]; exact h.1.2
  unfold gaText
  split
  · rw [List.length_cons]; omega
  · split
    · omega
    · split
      · rw [List.length_cons]; omega
      · have h3 : a.2.1 = 3 := by have := h.2.1; omega
        have l3 : 1 ≤ (nb a.2.2).length ∧ (nb a.2.2).length ≤ 30 := by rw [nb_length]; exact (h.2.2.1 h3).2
        rw [List.length_append, List.length_cons]; omega
theorem bx_eq {s : ByteArray} {l : List Nat} (h : nb s = l) (k : Nat) : bx s k = l.getD k 0 := by unfold bx; rw [h]
theorem gaText_read {a : AttrT} (h : GoodA a) {t : ByteArray} (ht : nb t = gaText a) : ReadAs t (readOf a) := by
  have hsz : t.size = (gaText a).length := size_of ht
  have hl := gaText_len h
  have hr := gaText_range h
  have w1 := word_range h.1
  have wf := word_first h.1
  have hs1 := h.1.2
  refine ⟨by omega, by omega, fun j hj => ?_, ?_⟩
  · have := hr (bx t j) (by rw [← ht]; exact bx_mem hj); omega
  have hne : ∀ {l : List Nat}, nb t = l → (∀ c ∈ l, c ≠ 61) → ∀ i, i < t.size → bx t i ≠ 61 := fun e hl i hi => by
    have := bx_mem hi
    rw [e] at this
    exact hl _ this
  unfold gaText at ht
  by_cases h0 : a.2.1 = 0
  · rw [if_pos h0] at ht
    refine .inr ⟨hne ht (fun c hc => ?_), .inl ⟨.inl (bx_of ht), ?_⟩⟩
    · rcases List.mem_cons.mp hc with rfl | hc
      · omega
      · exact (w1 c hc).2.2.1
    · have e1 : t.extract 1 t.size = a.1 := nb_inj (by rw [nb_tail, ht]; rfl)
      unfold readOf
      rw [if_pos h0, if_neg (by omega), e1, bx_of ht]
  · rw [if_neg h0] at ht
    by_cases h1 : a.2.1 = 1
    · rw [if_pos h1] at ht
      obtain rfl : t = a.1 := nb_inj ht
      refine .inr ⟨hne rfl (fun c hc => (w1 c hc).2.2.1), .inr ⟨by omega, by omega, ?_⟩⟩
      unfold readOf
      rw [if_neg h0, if_pos h1, if_neg (by omega)]
    · rw [if_neg h1] at ht
      by_cases h2 : a.2.1 = 2
      · rw [if_pos h2] at ht
        refine .inr ⟨hne ht (fun c hc => ?_), .inl ⟨.inr (bx_of ht), ?_⟩⟩
        · rcases List.mem_cons.mp hc with rfl | hc
          · omega
          · exact (w1 c hc).2.2.1
        · have e1 : t.extract 1 t.size = a.1 := nb_inj (by rw [nb_tail, ht]; rfl)
          unfold readOf
          rw [if_neg h0, if_neg h1, if_pos h2, if_neg (by omega), e1, bx_of ht]
      · rw [if_neg h2] at ht
        have h3 : a.2.1 = 3 := by have := h.2.1; omega
        have e : t = a.1 ++ (bs [61] ++ a.2.2) := nb_inj (by rw [ht, nb_append, nb_append]; rfl)
        have hts : t.size = a.1.size + (1 + a.2.2.size) := by rw [e, ByteArray.size_append, ByteArray.size_append]; rfl
        have hgl : ∀ i, i < a.1.size → bx t i = bx a.1 i := fun i hi => by rw [e]; unfold bx; rw [nb_append, getD_left _ _ _ (by rw [nb_length]; exact hi)]
        have hm : bx t a.1.size = 61 := by rw [bx_eq ht, getD_right _ _ _ (by rw [nb_length]; exact Nat.le_refl _), nb_length, Nat.sub_self]; rfl
        refine .inl ⟨a.1.size, by omega, fun i hi => ?_, hm, ?_, ?_, ?_⟩
        · rw [hgl i hi]; exact (w1 _ (bx_mem hi)).2.2.1
        · rw [hgl 0 (by omega)]; omega
        · rw [hgl 0 (by omega)]; omega
        · have e1 : t.extract 0 a.1.size = a.1 := nb_inj (by rw [nb_extract, ht, List.drop_zero, Nat.sub_zero, List.take_left' (nb_length _)])
          have e2 : t.extract (a.1.size + 1) t.size = a.2.2 := nb_inj (by rw [nb_tail, ht, ← nb_length a.1, ← List.drop_drop, List.drop_left' rfl]; rfl)
          unfold readOf
          rw [if_neg h0, if_neg h1, if_neg h2, if_pos h3, e1, e2]

/-! ## The pattern's text -/
theorem good_range (t : Tok) (h : t.good) : ∀ c ∈ t.text, 42 ≤ c ∧ c ≤ 99 := by
  intro c hc
  cases t with
  | star => simp [Tok.text] at hc; omega
  | any => simp [Tok.text] at hc; omega
  | lit x => simp [Tok.text] at hc; subst hc; unfold Tok.good letter at h; dsimp only at h; omega
  | esc x => simp [Tok.text] at hc; unfold Tok.good letter at h; dsimp only at h; omega
  | set neg items =>
    simp [Tok.text] at hc
    rcases hc with h1 | h1 | h1 | h1
    · omega
    · unfold negText at h1
      split at h1
      · rw [List.mem_singleton] at h1; omega
      · cases h1
    · rcases items_plain items h.2 c h1 with h2 | h2
      · unfold letter at h2; omega
      · omega
    · omega
theorem part_range {n : Nat} {s : ByteArray} (h : PartOk n s) : ∀ c ∈ nb s, 42 ≤ c ∧ c ≤ 99 := by
  rcases h with ⟨T, hT, hG, h1, h2⟩ | ⟨h, _⟩
  · intro c hc
    rw [hT] at hc
    obtain ⟨t, ht, hc⟩ := List.mem_flatMap.mp hc
    exact good_range t (hG t ht) c hc
  · intro c hc
    rw [h] at hc; simp at hc; omega
theorem gt_range (f : Nat → ByteArray) (ahead : Bool) (n : Nat) : ∀ k, (∀ j, j < k → PartOk n (f j)) → ∀ c ∈ gt f ahead k, 42 ≤ c ∧ c ≤ 99 := by
  intro k
  induction k with
  | zero =>
    intro _ c hc
    have hc : c ∈ (if ahead = true then [47] else []) := hc
    split at hc
    · rw [List.mem_singleton] at hc; omega
    · cases hc
  | succ k ih =>
    intro h c hc
    have hc : c ∈ gt f ahead k ++ (if k = 0 then [] else [47]) ++ nb (f k) := hc
    rcases List.mem_append.mp hc with hc | hc
    · rcases List.mem_append.mp hc with hc | hc
      · exact ih (fun j hj => h j (by omega)) c hc
      · split at hc
        · cases hc
        · rw [List.mem_singleton] at hc; omega
    · exact part_range (h k (by omega)) c hc
theorem gt_ne (f : Nat → ByteArray) (ahead : Bool) (n k : Nat) (hk : 1 ≤ k) (h : ∀ j, j < k → PartOk n (f j)) : gt f ahead k ≠ [] := by
  obtain ⟨m, rfl⟩ : ∃ m, k = m + 1 := ⟨k - 1, by omega⟩
  exact (gt_split f ahead n m h).2.2.2

/-! ## The line -/
def lineL (g sp : List Nat) (f : Nat → AttrT) : Nat → List Nat
  | 0 => g
  | k + 1 => lineL g sp f k ++ (sp ++ gaText (f k))
theorem isBl_not {c : Nat} (h : 33 ≤ c) : isBl c = false := by unfold isBl; rw [decide_eq_false_iff_not]; omega
theorem line_of (g sp : List Nat) (f : Nat → AttrT) (hg0 : g ≠ []) (hg : ∀ c ∈ g, 33 ≤ c) (hs0 : sp ≠ []) (hs : ∀ c ∈ sp, isBl c = true) : ∀ k, (∀ i, i < k → GoodA (f i)) → LineOf (lineL g sp f k) (g :: (List.range k).map fun i => gaText (f i)) := by
  intro k
  induction k with
  | zero => intro _; exact LineOf.one hg0 fun c hc => isBl_not (hg c hc)
  | succ k ih =>
    intro h
    have hk := h k (by omega)
    have := LineOf.more (ih fun i hi => h i (by omega)) hs0 hs (a := gaText (f k)) (fun e => by have := gaText_len hk; rw [e] at this; simp at this) (fun c hc => isBl_not (gaText_range hk c hc).1)
    rw [List.range_succ, List.map_append, ← List.cons_append]
    exact this
theorem line_len (g sp : List Nat) (f : Nat → AttrT) : ∀ k, (∀ i, i < k → GoodA (f i)) → (lineL g sp f k).length ≤ g.length + k * (sp.length + 62) := by
  intro k
  induction k with
  | zero => intro _; simp [lineL]
  | succ k ih =>
    intro h
    have := ih fun i hi => h i (by omega)
    have h2 := gaText_len (h k (by omega))
    show (lineL g sp f k ++ (sp ++ gaText (f k))).length ≤ _
    rw [List.length_append, List.length_append, Nat.add_mul]
    omega
theorem line_head (g sp : List Nat) (f : Nat → AttrT) (hg0 : g ≠ []) : ∀ k, (lineL g sp f k).getD 0 0 = g.getD 0 0 := by
  have hne : ∀ k, lineL g sp f k ≠ [] := by
    intro k
    induction k with
    | zero => exact hg0
    | succ k ih => exact fun e => ih (List.append_eq_nil_iff.mp e).1
  intro k
  induction k with
  | zero => rfl
  | succ k ih =>
    show (lineL g sp f k ++ (sp ++ gaText (f k))).getD 0 0 = _
    rw [getD_left _ _ _ (List.length_pos_iff.mpr (hne k)), ih]
theorem line_last (g sp : List Nat) (f : Nat → AttrT) (k : Nat) (h : GoodA (f k)) : 33 ≤ (lineL g sp f (k + 1)).getD ((lineL g sp f (k + 1)).length - 1) 0 := by
  have hl := gaText_len h
  have e : lineL g sp f (k + 1) = (lineL g sp f k ++ sp) ++ gaText (f k) := by rw [List.append_assoc]; rfl
  rw [e, getD_right _ _ _ (by rw [List.length_append (bs := gaText (f k))]; omega)]
  have hlt : (lineL g sp f k ++ sp ++ gaText (f k)).length - 1 - (lineL g sp f k ++ sp).length < (gaText (f k)).length := by rw [List.length_append (bs := gaText (f k))]; omega
  rw [List.getD_eq_getElem?_getD, List.getElem?_eq_getElem hlt, Option.getD_some]
  exact (gaText_range h _ (List.getElem_mem hlt)).1
theorem pre_attr {nm : ByteArray} (h : ∀ c ∈ nb nm, c ≤ 99) : pre nm ⟨#[91, 97, 116, 116, 114, 93]⟩ = false := by
  unfold pre
  rw [Bool.and_eq_false_iff]
  by_cases hs : 6 ≤ nm.size
  · refine .inr (beq_eq_false_iff_ne.mpr fun e => ?_)
    have hm : (116 : Nat) ∈ nb (nm.extract 0 (⟨#[91, 97, 116, 116, 114, 93]⟩ : ByteArray).size) := by rw [e]; simp [nb]
    rw [nb_extract] at hm
    have := h 116 (List.mem_of_mem_drop (List.mem_of_mem_take hm))
    omega
  · exact .inl (decide_eq_false hs)
end Go.Proofs.YteipeagdflcjjaaDoor
