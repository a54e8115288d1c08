/- Rows of numbers that the call made: reading, writing. -/
import Derived.Test.YtgibmkgibkhemaaDoorDcA
import Derived.Deep.OwnRows
namespace Go.Proofs.YtgibmkgibkhemaaDoor
open Go.RowKit
set_option linter.unusedSimpArgs false
set_option linter.unusedVariables false

def IR (w : World) (g n : Nat) (f : Nat → Nat) : Prop := ∃ C : Array Value, w.heap[g]? = some (.cells C 3 (0, 0)) ∧ C.size = n ∧ ∀ i, i < n → C[i]? = some (.int .i64 (f i : Nat))
theorem IR.lt {w : World} {g n : Nat} {f : Nat → Nat} (h : IR w g n f) : g < w.heap.size := by
  obtain ⟨C, hC, _⟩ := h
  exact (Array.getElem?_eq_some_iff.1 hC).1
theorem IR.cell {w : World} {g n : Nat} {f : Nat → Nat} (h : IR w g n f) {i : Nat} (hi : i < n) : w.cell? ⟨g, i, none⟩ = some (.int .i64 (f i : Nat)) := by
  obtain ⟨C, hC, _, hf⟩ := h
  rw [Lib.cell_of_heap hC]
  exact hf i hi
theorem IR.free {w : World} {g n : Nat} {f : Nat → Nat} (h : IR w g n f) (i : Nat) : w.frozen? ⟨g, i, none⟩ = false := by
  obtain ⟨C, hC, _⟩ := h
  unfold World.frozen?
  rw [hC]
  simp
theorem IR.of_block {w w' : World} {g n : Nat} {f : Nat → Nat} (h : IR w g n f) (he : w'.heap[g]? = w.heap[g]?) : IR w' g n f := by
  obtain ⟨C, hC, r⟩ := h
  exact ⟨C, he.trans hC, r⟩
theorem IR.below {w w' : World} {g n : Nat} {f : Nat → Nat} {B : Nat} (h : IR w g n f) (hb : Below B w w') (hg : g < B) : IR w' g n f := h.of_block (hb.block g hg)
theorem IR.congr {w : World} {g n : Nat} {f f' : Nat → Nat} (h : IR w g n f) (he : ∀ i, i < n → f i = f' i) : IR w g n f' := by
  obtain ⟨C, hC, hs, hf⟩ := h
  exact ⟨C, hC, hs, fun i hi => by rw [← he i hi]; exact hf i hi⟩
def upd (f : Nat → Nat) (i v : Nat) : Nat → Nat := fun j => if j = i then v else f j
theorem upd_same (f : Nat → Nat) (i v : Nat) : upd f i v i = v := by unfold upd; rw [if_pos rfl]
theorem upd_other (f : Nat → Nat) (i v j : Nat) (h : j ≠ i) : upd f i v j = f j := by unfold upd; rw [if_neg h]
theorem heap_setCell_same {w : World} {g i : Nat} {C : Array Value} {T : TypeId} {m : Nat × Nat} (h : w.heap[g]? = some (.cells C T m)) (v : Value) : (w.setCell ⟨g, i, none⟩ v).heap[g]? = some (.cells (C.setIfInBounds i v) T m) := by
  simp [World.setCell, Array.getElem?_modify, h]
theorem heap_setCell_other {w : World} {a : Addr} {g : Nat} (h : a.block ≠ g) (v : Value) : (w.setCell a v).heap[g]? = w.heap[g]? := by
  simp [World.setCell, Array.getElem?_modify, h]
theorem IR.set {w : World} {g n : Nat} {f : Nat → Nat} (h : IR w g n f) {i : Nat} (hi : i < n) (v : Nat) : IR (w.setCell ⟨g, i, none⟩ (.int .i64 (v : Nat))) g n (upd f i v) := by
  obtain ⟨C, hC, hs, hf⟩ := h
  refine ⟨_, heap_setCell_same hC _, by rw [Array.size_setIfInBounds]; exact hs, fun j hj => ?_⟩
  by_cases e : j = i
  · subst e
    rw [upd_same, Array.getElem?_setIfInBounds_self_of_lt (by omega)]
  · rw [upd_other _ _ _ _ e, Array.getElem?_setIfInBounds_ne (fun h => e h.symm)]
    exact hf j hj
theorem IR.other {w : World} {g n : Nat} {f : Nat → Nat} (h : IR w g n f) {a : Addr} (hne : a.block ≠ g) (v : Value) : IR (w.setCell a v) g n f := h.of_block (heap_setCell_other hne v)
theorem IR.make (w : World) (n : Nat) : IR (w.alloc (.cells (madeCells #[.int .i64 0] n) 3)) w.heap.size n (fun _ => 0) := by
  refine ⟨_, heap_new _ _, size_madeCells _ _, fun i hi => ?_⟩
  unfold madeCells
  simp [hi, Nat.mod_one]
theorem below_setCell {w w1 : World} {B b : Nat} (h : Below B w w1) (hb : B ≤ b) (i : Nat) (v : Value) : Below B w (w1.setCell ⟨b, i, none⟩ v) :=
  ⟨h.os, h.tape, h.output, by simpa [World.setCell] using h.size, fun k hk => by
    rw [heap_setCell_other (by show b ≠ k; omega)]
    exact h.block k hk⟩
end Go.Proofs.YtgibmkgibkhemaaDoor
