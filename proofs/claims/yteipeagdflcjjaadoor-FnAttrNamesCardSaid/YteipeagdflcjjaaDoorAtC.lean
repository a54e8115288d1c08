/- ParseAttributesLine: the words, and one attribute's round. -/
import Derived.Test.YteipeagdflcjjaaDoorAtB
import Derived.Lib.BufferMore
import Derived.Outline
namespace Go.Proofs.YteipeagdflcjjaaDoor
open Go.RowKit
set_option linter.unusedSimpArgs false
set_option linter.unusedVariables false

/-! ## A line as its fields -/
theorem stepF_plain (l : List Nat) (h : ∀ c ∈ l, isBl c = false) : ∀ D cur, l.foldl stepF (D, some cur) = (D, some (cur ++ l)) := by
  induction l with
  | nil => intro D cur; simp
  | cons a r ih =>
    intro D cur
    rw [List.foldl_cons]
    have : stepF (D, some cur) a = (D, some (cur ++ [a])) := by unfold stepF; rw [if_neg (by rw [h a (by simp)]; decide)]; rfl
    rw [this, ih (fun c hc => h c (by simp [hc]))]
    simp
theorem stepF_word (l : List Nat) (h0 : l ≠ []) (h : ∀ c ∈ l, isBl c = false) (D : List (List Nat)) : l.foldl stepF (D, none) = (D, some l) := by
  cases l with
  | nil => exact absurd rfl h0
  | cons a r =>
    rw [List.foldl_cons]
    have : stepF (D, none) a = (D, some [a]) := by unfold stepF; rw [if_neg (by rw [h a (by simp)]; decide)]; rfl
    rw [this, stepF_plain r (fun c hc => h c (by simp [hc]))]
    rfl
theorem stepF_blanks (l : List Nat) (h : ∀ c ∈ l, isBl c = true) : ∀ D, l.foldl stepF (D, none) = (D, none) := by
  induction l with
  | nil => intro D; rfl
  | cons a r ih =>
    intro D
    rw [List.foldl_cons]
    have : stepF (D, none) a = (D, none) := by unfold stepF; rw [if_pos (h a (by simp))]
    rw [this, ih (fun c hc => h c (by simp [hc]))]
theorem stepF_gap (l : List Nat) (h0 : l ≠ []) (h : ∀ c ∈ l, isBl c = true) (D : List (List Nat)) (cur : List Nat) : l.foldl stepF (D, some cur) = (D ++ [cur], none) := by
  cases l with
  | nil => exact absurd rfl h0
  | cons a r =>
    rw [List.foldl_cons]
    have : stepF (D, some cur) a = (D ++ [cur], none) := by unfold stepF; rw [if_pos (h a (by simp))]
    rw [this, stepF_blanks r (fun c hc => h c (by simp [hc]))]
/-- A line that ends in a field. -/
def LineOf (l : List Nat) (F : List (List Nat)) : Prop := ∃ D cur, runF l = (D, some cur) ∧ F = D ++ [cur]
theorem LineOf.fields {l : List Nat} {F : List (List Nat)} (h : LineOf l F) : fieldsN l = F := by
  obtain ⟨D, cur, h1, h2⟩ := h
  unfold fieldsN
  rw [h1, h2]
theorem LineOf.one {l : List Nat} (h0 : l ≠ []) (h : ∀ c ∈ l, isBl c = false) : LineOf l [l] := ⟨[], l, stepF_word l h0 h [], rfl⟩
theorem LineOf.more {l sp a : List Nat} {F : List (List Nat)} (h : LineOf l F) (hs0 : sp ≠ []) (hs : ∀ c ∈ sp, isBl c = true) (ha0 : a ≠ []) (ha : ∀ c ∈ a, isBl c = false) : LineOf (l ++ (sp ++ a)) (F ++ [a]) := by
  obtain ⟨D, cur, h1, h2⟩ := h
  refine ⟨D ++ [cur], a, ?_, by rw [h2]⟩
  unfold runF at h1 ⊢
  rw [List.foldl_append, List.foldl_append, h1, stepF_gap sp hs0 hs, stepF_word a ha0 ha]

/-! ## One attribute -/
abbrev AttrT := ByteArray × Nat × ByteArray
/-- What the text of an attribute is read as. -/
def ReadAs (t : ByteArray) (a : AttrT) : Prop :=
  1 ≤ t.size ∧ t.size ≤ 1000 ∧ Asc t ∧
  ((∃ m, m < t.size ∧ (∀ i, i < m → bx t i ≠ 61) ∧ bx t m = 61 ∧ bx t 0 ≠ 33 ∧ bx t 0 ≠ 45 ∧ a = (t.extract 0 m, 61, t.extract (m + 1) t.size)) ∨
   ((∀ i, i < t.size → bx t i ≠ 61) ∧ ((bx t 0 = 33 ∨ bx t 0 = 45) ∧ a = (t.extract 1 t.size, bx t 0, ⟨#[]⟩) ∨ (bx t 0 ≠ 33 ∧ bx t 0 ≠ 45 ∧ a = (t, 1, ⟨#[]⟩)))))
def attrAgg (a : AttrT) : Value := .agg #[.string a.1, .int .u8 (a.2.1 : Nat), .string a.2.2]
def attrV (a : AttrT) : Value := .iface 127 (.agg #[.string a.1, .int .u8 (a.2.1 : Nat), .string a.2.2])
theorem attrInfo : (Tryd.prog.info? 92).map (fun i => (i.zero, i.size, i.bytes)) = some (some .nilIface, 1, 16) := by kernel_rfl
theorem attrsKind : Tryd.prog.underlying 85 = some (.slice 92) := by kernel_rfl
/-- The block of a MatchAttribute. -/
def MRow (w : World) (mb : Nat) (nm : ByteArray) (p v : Value) : Prop := w.heap[mb]? = some (.cells #[.string nm, p, v] 87 (0, 0))
def ARow (w : World) (ab : Nat) (a : AttrT) : Prop := w.heap[ab]? = some (.cells #[.string a.1, .int .u8 (a.2.1 : Nat), .string a.2.2] 127 (0, 0))
theorem ARow.cells {w : World} {ab : Nat} {a : AttrT} (h : ARow w ab a) : w.cell? ⟨ab, 0, none⟩ = some (.string a.1) ∧ w.cell? ⟨ab, 1, none⟩ = some (.int .u8 (a.2.1 : Nat)) ∧ w.cell? ⟨ab, 2, none⟩ = some (.string a.2.2) :=
  ⟨by rw [Lib.cell_of_heap h]; rfl, by rw [Lib.cell_of_heap h]; rfl, by rw [Lib.cell_of_heap h]; rfl⟩
theorem ARow.free {w : World} {ab : Nat} {a : AttrT} (h : ARow w ab a) : w.frozen? ⟨ab, 0, none⟩ = false ∧ w.frozen? ⟨ab, 1, none⟩ = false ∧ w.frozen? ⟨ab, 2, none⟩ = false :=
  ⟨Lib.frozen_of_heap h 0, Lib.frozen_of_heap h 1, Lib.frozen_of_heap h 2⟩
theorem ARow.set0 {w : World} {ab : Nat} {a : AttrT} (h : ARow w ab a) (s : ByteArray) : ARow (w.setCell ⟨ab, 0, none⟩ (.string s)) ab (s, a.2.1, a.2.2) := Lib.heap_setCell_same (i := 0) h (.string s)
theorem ARow.set1 {w : World} {ab : Nat} {a : AttrT} (h : ARow w ab a) (x : Nat) : ARow (w.setCell ⟨ab, 1, none⟩ (.int .u8 (x : Nat))) ab (a.1, x, a.2.2) := Lib.heap_setCell_same (i := 1) h (.int .u8 (x : Nat))
theorem ARow.set2 {w : World} {ab : Nat} {a : AttrT} (h : ARow w ab a) (s : ByteArray) : ARow (w.setCell ⟨ab, 2, none⟩ (.string s)) ab (a.1, a.2.1, s) := Lib.heap_setCell_same (i := 2) h (.string s)
theorem ARow.below {w w' : World} {ab B : Nat} {a : AttrT} (h : ARow w ab a) (hb : Below B w w') (hlt : ab < B) : ARow w' ab a := (hb.block ab hlt).trans h
theorem ARow.lt {w : World} {ab : Nat} {a : AttrT} (h : ARow w ab a) : ab < w.heap.size := (Array.getElem?_eq_some_iff.1 h).1
theorem MRow.cells {w : World} {mb : Nat} {nm : ByteArray} {p v : Value} (h : MRow w mb nm p v) : w.cell? ⟨mb, 0, none⟩ = some (.string nm) ∧ w.cell? ⟨mb, 1, none⟩ = some p ∧ w.cell? ⟨mb, 2, none⟩ = some v :=
  ⟨by rw [Lib.cell_of_heap h]; rfl, by rw [Lib.cell_of_heap h]; rfl, by rw [Lib.cell_of_heap h]; rfl⟩
theorem MRow.free {w : World} {mb : Nat} {nm : ByteArray} {p v : Value} (h : MRow w mb nm p v) : w.frozen? ⟨mb, 0, none⟩ = false ∧ w.frozen? ⟨mb, 1, none⟩ = false ∧ w.frozen? ⟨mb, 2, none⟩ = false :=
  ⟨Lib.frozen_of_heap h 0, Lib.frozen_of_heap h 1, Lib.frozen_of_heap h 2⟩
theorem MRow.lt {w : World} {mb : Nat} {nm : ByteArray} {p v : Value} (h : MRow w mb nm p v) : mb < w.heap.size := (Array.getElem?_eq_some_iff.1 h).1
theorem MRow.set0 {w : World} {mb : Nat} {nm : ByteArray} {p v : Value} (h : MRow w mb nm p v) (s : ByteArray) : MRow (w.setCell ⟨mb, 0, none⟩ (.string s)) mb s p v := Lib.heap_setCell_same (i := 0) h _
theorem MRow.set1 {w : World} {mb : Nat} {nm : ByteArray} {p v : Value} (h : MRow w mb nm p v) (u : Value) : MRow (w.setCell ⟨mb, 1, none⟩ u) mb nm u v := Lib.heap_setCell_same (i := 1) h _
theorem MRow.set2 {w : World} {mb : Nat} {nm : ByteArray} {p v : Value} (h : MRow w mb nm p v) (u : Value) : MRow (w.setCell ⟨mb, 2, none⟩ u) mb nm p u := Lib.heap_setCell_same (i := 2) h _
theorem MRow.below {w w' : World} {mb B : Nat} {nm : ByteArray} {p v : Value} (h : MRow w mb nm p v) (hb : Below B w w') (hlt : mb < B) : MRow w' mb nm p v := (hb.block mb hlt).trans h
theorem ownsRow_belowG {w w1 : World} {B : Nat} {e : TypeId} {v : Value} {k : Nat} {xs : List Value} (h : w.ownsRow B e 1 v k xs) (hb : Below w.heap.size w w1) : w1.ownsRow B e 1 v k xs := by
  refine ⟨h.1, ?_⟩
  rcases h.2 with hn | ⟨g, cap, cur, rfl, hbg, hgg, rest⟩
  · exact .inl hn
  · exact .inr ⟨g, cap, cur, rfl, hbg, by rw [hb.block g (Array.getElem?_eq_some_iff.1 hgg).1]; exact hgg, rest⟩
theorem ownsRow_baseG {w : World} {B B' : Nat} {e : TypeId} {v : Value} {k : Nat} {xs : List Value} (h : w.ownsRow B e 1 v k xs) (hB : B' ≤ B) : w.ownsRow B' e 1 v k xs := by
  refine ⟨h.1, ?_⟩
  rcases h.2 with hn | ⟨g, cap, cur, rfl, hbg, rest⟩
  · exact .inl hn
  · exact .inr ⟨g, cap, cur, rfl, Nat.le_trans hB hbg, rest⟩
end Go.Proofs.YteipeagdflcjjaaDoor
