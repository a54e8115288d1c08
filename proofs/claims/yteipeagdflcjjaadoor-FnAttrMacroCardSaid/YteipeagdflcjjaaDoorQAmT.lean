/- Sorting by insertion, plain: rows of a list shifted by one. -/
import Derived.Test.YteipeagdflcjjaaDoorQAmX
namespace Go.Proofs.YteipeagdflcjjaaDoor.Am
open Go.RowKit
set_option linter.unusedSimpArgs false
set_option linter.unusedVariables false

/-! ## The order of strings -/
def ltS (x y : ByteArray) : Bool := Op.bytesLess x.toList y.toList
theorem bl_irrefl : ∀ x : List UInt8, Op.bytesLess x x = false := by
  intro x
  induction x with
  | nil => rfl
  | cons a x ih =>
    show (decide (a < a) || (a == a && Op.bytesLess x x)) = false
    rw [ih, decide_eq_false (UInt8.lt_irrefl a)]; simp
theorem bl_trans : ∀ x y z : List UInt8, Op.bytesLess x y = true → Op.bytesLess y z = true → Op.bytesLess x z = true := by
  intro x
  induction x with
  | nil =>
    intro y z h1 h2
    cases y with
    | nil => cases h1
    | cons b y => cases z with
      | nil => cases h2
      | cons c z => rfl
  | cons a x ih =>
    intro y z h1 h2
    cases y with
    | nil => cases h1
    | cons b y =>
      cases z with
      | nil => cases h2
      | cons c z =>
        have g1 : (decide (a < b) || (a == b && Op.bytesLess x y)) = true := h1
        have g2 : (decide (b < c) || (b == c && Op.bytesLess y z)) = true := h2
        clear h1 h2
        show (decide (a < c) || (a == c && Op.bytesLess x z)) = true
        simp only [Bool.or_eq_true, decide_eq_true_eq, Bool.and_eq_true, beq_iff_eq] at g1 g2 ⊢
        rcases g1 with g1 | ⟨rfl, g1⟩
        · rcases g2 with g2 | ⟨rfl, g2⟩
          · exact .inl (UInt8.lt_trans g1 g2)
          · exact .inl g1
        · rcases g2 with g2 | ⟨rfl, g2⟩
          · exact .inl g2
          · exact .inr ⟨rfl, ih y z g1 g2⟩
theorem bl_total : ∀ x y : List UInt8, Op.bytesLess x y = false → x ≠ y → Op.bytesLess y x = true := by
  intro x
  induction x with
  | nil =>
    intro y h1 h2
    cases y with
    | nil => exact absurd rfl h2
    | cons b y => cases h1
  | cons a x ih =>
    intro y h1 h2
    cases y with
    | nil => rfl
    | cons b y =>
      have h1 : (decide (a < b) || (a == b && Op.bytesLess x y)) = false := h1
      show (decide (b < a) || (b == a && Op.bytesLess y x)) = true
      rw [Bool.or_eq_false_iff] at h1
      obtain ⟨h3, h4⟩ := h1
      have h3 : ¬ a < b := of_decide_eq_false h3
      by_cases e : a = b
      · subst e
        have h5 : Op.bytesLess x y = false := by simpa using h4
        have := ih y h5 (fun e => h2 (by rw [e]))
        rw [this]; simp
      · have : b < a := UInt8.lt_of_le_of_ne (UInt8.not_lt.mp h3) (fun h => e h.symm)
        rw [decide_eq_true this]; rfl
theorem ltS_irrefl (x : ByteArray) : ltS x x = false := bl_irrefl _
theorem ltS_trans {x y z : ByteArray} (h1 : ltS x y = true) (h2 : ltS y z = true) : ltS x z = true := bl_trans _ _ _ h1 h2
theorem ltS_asymm {x y : ByteArray} (h1 : ltS x y = true) : ltS y x = false := by
  cases h : ltS y x with
  | false => rfl
  | true => have := ltS_trans h1 h; rw [ltS_irrefl] at this; cases this
theorem toList_inj {x y : ByteArray} (h : x.toList = y.toList) : x = y := nb_inj (by unfold nb; rw [← toList_data, ← toList_data, h])
theorem ltS_total {x y : ByteArray} (h : ltS x y = false) (hne : x ≠ y) : ltS y x = true := bl_total _ _ h (fun e => hne (toList_inj e))

/-! ## Lists in order -/
def SortedBy {α : Type} (f : α → ByteArray) (l : List α) : Prop := l.Pairwise fun a b => ltS (f a) (f b) = true
theorem sorted_ins {α : Type} {f : α → ByteArray} {l : List α} {x : α} {i : Nat} (h : SortedBy f l) (hi : i ≤ l.length) (h1 : ∀ a ∈ l.drop i, ltS (f x) (f a) = true) (h2 : ∀ a ∈ l.take i, ltS (f a) (f x) = true) : SortedBy f (l.take i ++ x :: l.drop i) := by
  unfold SortedBy at *
  rw [← List.take_append_drop i l, List.pairwise_append] at h
  obtain ⟨p1, p2, p3⟩ := h
  rw [List.pairwise_append]
  refine ⟨p1, List.pairwise_cons.mpr ⟨h1, p2⟩, fun a ha b hb => ?_⟩
  rcases List.mem_cons.mp hb with rfl | hb
  · exact h2 a ha
  · exact p3 a ha b hb
theorem take_lt {α : Type} {f : α → ByteArray} {l : List α} {x : α} {i : Nat} (d : α) (h : SortedBy f l) (hi : i ≤ l.length) (hx : i = 0 ∨ ltS (f (l.getD (i - 1) d)) (f x) = true) : ∀ a ∈ l.take i, ltS (f a) (f x) = true := by
  intro a ha
  obtain ⟨j, hj, rfl⟩ := List.mem_iff_getElem.mp ha
  rw [List.length_take] at hj
  rcases hx with rfl | hx
  · omega
  · rw [List.getElem_take]
    have hl : i - 1 < l.length := by omega
    have e : l.getD (i - 1) d = l[i - 1] := by rw [List.getD_eq_getElem?_getD, List.getElem?_eq_getElem hl]; rfl
    rw [e] at hx
    by_cases ej : j = i - 1
    · subst ej; exact hx
    · exact ltS_trans (List.pairwise_iff_getElem.mp h j (i - 1) (by omega) hl (by omega)) hx
theorem drop_gt {α : Type} {f : α → ByteArray} {l : List α} {x : α} {i : Nat} (d : α) (h : ∀ r, i ≤ r → r < l.length → ltS (f x) (f (l.getD r d)) = true) : ∀ a ∈ l.drop i, ltS (f x) (f a) = true := by
  intro a ha
  obtain ⟨j, hj, rfl⟩ := List.mem_iff_getElem.mp ha
  rw [List.length_drop] at hj
  rw [List.getElem_drop]
  have := h (i + j) (by omega) (by omega)
  rwa [List.getD_eq_getElem?_getD, List.getElem?_eq_getElem (by omega)] at this
theorem mem_ins {α : Type} {l : List α} {x : α} (i : Nat) (a : α) : a ∈ l.take i ++ x :: l.drop i ↔ a = x ∨ a ∈ l := by
  rw [List.mem_append, List.mem_cons]
  conv => rhs; rw [← List.take_append_drop i l, List.mem_append]
  constructor
  · rintro (h | h | h)
    · exact .inr (.inl h)
    · exact .inl h
    · exact .inr (.inr h)
  · rintro (h | h | h)
    · exact .inr (.inl h)
    · exact .inl h
    · exact .inr (.inr h)
theorem len_ins {α : Type} {l : List α} {x : α} {i : Nat} (h : i ≤ l.length) : (l.take i ++ x :: l.drop i).length = l.length + 1 := by
  rw [List.length_append, List.length_cons, List.length_take, List.length_drop]; omega
theorem getD_ins {α : Type} {l : List α} {x d : α} {i : Nat} (h : i ≤ l.length) (r : Nat) (hr : r ≤ l.length) : (l.take i ++ x :: l.drop i).getD r d = if r < i then l.getD r d else if r = i then x else l.getD (r - 1) d := by
  rw [List.getD_eq_getElem?_getD]
  by_cases h1 : r < i
  · rw [if_pos h1, List.getElem?_append_left (by rw [List.length_take]; omega), List.getElem?_take_of_lt h1, ← List.getD_eq_getElem?_getD]
  · rw [if_neg h1, List.getElem?_append_right (by rw [List.length_take]; omega), List.length_take, Nat.min_eq_left h]
    by_cases h2 : r = i
    · rw [if_pos h2, h2, Nat.sub_self]; rfl
    · rw [if_neg h2]
      obtain ⟨q, rfl⟩ : ∃ q, r = i + q + 1 := ⟨r - i - 1, by omega⟩
      rw [show i + q + 1 - i = q + 1 by omega, List.getElem?_cons_succ, List.getElem?_drop, ← List.getD_eq_getElem?_getD]
      rfl
/-- Two lists in order of the same members are one. -/
theorem sorted_eq {α : Type} {f : α → ByteArray} : ∀ {l m : List α}, SortedBy f l → SortedBy f m → (∀ a, a ∈ l ↔ a ∈ m) → l = m := by
  intro l
  induction l with
  | nil =>
    intro m _ _ h
    cases m with
    | nil => rfl
    | cons b m => exact absurd ((h b).mpr (List.mem_cons_self ..)) (by simp)
  | cons a l ih =>
    intro m hl hm h
    cases m with
    | nil => exact absurd ((h a).mp (List.mem_cons_self ..)) (by simp)
    | cons b m =>
      obtain ⟨l1, l2⟩ := List.pairwise_cons.mp hl
      obtain ⟨m1, m2⟩ := List.pairwise_cons.mp hm
      have hab : a = b := by
        rcases List.mem_cons.mp ((h a).mp (List.mem_cons_self ..)) with e | ha
        · exact e
        · rcases List.mem_cons.mp ((h b).mpr (List.mem_cons_self ..)) with e | hb
          · exact e.symm
          · have h1 := m1 a ha
            have h2 := l1 b hb
            rw [ltS_asymm h1] at h2; cases h2
      subst hab
      rw [ih l2 m2 fun c => ?_]
      constructor
      · intro hc
        rcases List.mem_cons.mp ((h c).mp (List.mem_cons_of_mem _ hc)) with rfl | hc2
        · have := l1 _ hc; rw [ltS_irrefl] at this; cases this
        · exact hc2
      · intro hc
        rcases List.mem_cons.mp ((h c).mpr (List.mem_cons_of_mem _ hc)) with rfl | hc2
        · have := m1 _ hc; rw [ltS_irrefl] at this; cases this
        · exact hc2

/-! ## Rows of three cells, shifted by one from a place on -/
def zA : AttrT := (⟨#[]⟩, 0, ⟨#[]⟩)
/-- The rows but the one at i: those behind it stand one further. -/
def Shift (cur : Array Value) (l : List AttrT) (i : Nat) : Prop := ∀ r t, r ≤ l.length → r ≠ i → t < 3 → cur[r * 3 + t]? = (out3 (if r < i then l.getD r zA else l.getD (r - 1) zA))[t]?
theorem flat_out (L : List AttrT) (r t : Nat) (hr : r < L.length) (ht : t < 3) : (L.flatMap out3)[r * 3 + t]? = (out3 (L.getD r zA))[t]? := by
  induction L generalizing r with
  | nil => exact absurd hr (Nat.not_lt_zero _)
  | cons x L ih =>
    rw [List.flatMap_cons]
    cases r with
    | zero =>
      rw [List.getElem?_append_left (by show _ < 3; omega)]
      simp
    | succ r =>
      rw [List.getElem?_append_right (by show 3 ≤ _; omega)]
      show (L.flatMap out3)[(r + 1) * 3 + t - 3]? = _
      rw [show (r + 1) * 3 + t - 3 = r * 3 + t by omega, ih r (by simpa using hr)]
      rfl
theorem flat_len (L : List AttrT) : (L.flatMap out3).length = L.length * 3 := by
  induction L with
  | nil => rfl
  | cons x L ih => rw [List.flatMap_cons, List.length_append, ih, List.length_cons]; show 3 + _ = _; omega
theorem shift_start {cur : Array Value} {l : List AttrT} {x : AttrT} (h : cur.toList.take ((l.length + 1) * 3) = (l ++ [x]).flatMap out3) : Shift cur l l.length := by
  intro r t hr hne ht
  have hlt : r < l.length := by omega
  have h1 : (cur.toList.take ((l.length + 1) * 3))[r * 3 + t]? = cur[r * 3 + t]? := by
    rw [List.getElem?_take_of_lt (by omega)]; simp
  rw [← h1, h, flat_out _ _ _ (by rw [List.length_append]; omega) ht, if_pos hlt, List.getD_eq_getElem?_getD, List.getD_eq_getElem?_getD, List.getElem?_append_left hlt]
def put3 (cur : Array Value) (i : Nat) (a : AttrT) : Array Value := ((cur.setIfInBounds (i * 3) (.string a.1)).setIfInBounds (i * 3 + 1) (.string a.2.2)).setIfInBounds (i * 3 + 2) (.int .i64 (stN a.2.1 : Nat))
theorem put3_size (cur : Array Value) (i : Nat) (a : AttrT) : (put3 cur i a).size = cur.size := by unfold put3; simp
theorem put3_at (cur : Array Value) (i : Nat) (a : AttrT) (r t : Nat) (ht : t < 3) (hs : i * 3 + 3 ≤ cur.size) : (put3 cur i a)[r * 3 + t]? = if r = i then (out3 a)[t]? else cur[r * 3 + t]? := by
  unfold put3
  rw [Array.getElem?_setIfInBounds, Array.getElem?_setIfInBounds, Array.getElem?_setIfInBounds]
  simp only [Array.size_setIfInBounds]
  by_cases e : r = i
  · subst e
    rw [if_pos rfl]
    rcases (show t = 0 ∨ t = 1 ∨ t = 2 by omega) with rfl | rfl | rfl
    · rw [if_neg (by omega), if_neg (by omega), if_pos (by omega), if_pos (by omega)]; rfl
    · rw [if_neg (by omega), if_pos (by omega), if_pos (by omega)]; rfl
    · rw [if_pos (by omega), if_pos (by omega)]; rfl
  · rw [if_neg e, if_neg (by omega), if_neg (by omega), if_neg (by omega)]
theorem shift_step {cur : Array Value} {l : List AttrT} {i : Nat} (h : Shift cur l (i + 1)) (hi : i < l.length) (hs : (l.length + 1) * 3 ≤ cur.size) : Shift (put3 cur (i + 1) (l.getD i zA)) l i := by
  intro r t hr hne ht
  rw [put3_at _ _ _ _ _ ht (by omega)]
  by_cases e : r = i + 1
  · rw [if_pos e, if_neg (by omega), e]; rfl
  · rw [if_neg e, h r t hr e ht]
    by_cases h1 : r < i
    · rw [if_pos h1, if_pos (by omega)]
    · rw [if_neg h1, if_neg (by omega)]
theorem shift_down {cur : Array Value} {l : List AttrT} {i : Nat} (h : Shift cur l i) (h1 : 1 ≤ i) (hi : i ≤ l.length) (hs : (l.length + 1) * 3 ≤ cur.size) : Shift (put3 cur i (l.getD (i - 1) zA)) l (i - 1) := by
  obtain ⟨j, rfl⟩ : ∃ j, i = j + 1 := ⟨i - 1, by omega⟩
  exact shift_step h (by omega) hs
theorem shift_done {cur : Array Value} {l : List AttrT} {i : Nat} (x : AttrT) (h : Shift cur l i) (hi : i ≤ l.length) (hs : (l.length + 1) * 3 ≤ cur.size) : (put3 cur i x).toList.take ((l.length + 1) * 3) = (l.take i ++ x :: l.drop i).flatMap out3 := by
  refine List.ext_getElem? fun j => ?_
  by_cases hj : j < (l.length + 1) * 3
  · rw [List.getElem?_take_of_lt hj]
    obtain ⟨r, t, hrt, ht⟩ : ∃ r t, j = r * 3 + t ∧ t < 3 := ⟨j / 3, j % 3, by omega, by omega⟩
    subst hrt
    have hr : r ≤ l.length := by omega
    rw [flat_out _ _ _ (by rw [len_ins hi]; omega) ht, getD_ins hi r hr]
    have h1 : (put3 cur i x).toList[r * 3 + t]? = (put3 cur i x)[r * 3 + t]? := by simp
    rw [h1, put3_at _ _ _ _ _ ht (by omega)]
    by_cases e : r = i
    · rw [if_pos e, if_neg (by omega), if_pos e]
    · rw [if_neg e, h r t hr e ht]
      by_cases h2 : r < i
      · rw [if_pos h2, if_pos h2]
      · rw [if_neg h2, if_neg h2, if_neg e]
  · rw [List.getElem?_eq_none (by rw [List.length_take]; omega), List.getElem?_eq_none (by rw [flat_len, len_ins hi]; omega)]
end Go.Proofs.YteipeagdflcjjaaDoor.Am
