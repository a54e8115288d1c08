/- What a row gives of a disguise's head; the world behind its box. -/
import Derived.Test.YtdmkjfkdjhmpjaaDoorHead
namespace Go.Proofs.YtdmkjfkdjhmpjaaDoor
open Go.RowKit
set_option linter.unusedSimpArgs false
set_option linter.unusedVariables false

/-- What the rows give of a head. -/
structure HeadArg (w : World) (wd : Nat) (A1 A2 : Option Addr) (n1 n2 : Nat) (f1 : Nat → Bool) (f2 : Nat → Nat) : Prop where
  word : wd < 256
  caps : Rd w A1 n1 (fun i => .bool (f1 i))
  igns : Rd w A2 n2 (fun i => .int .u8 (f2 i : Nat))
  small : ∀ i, f2 i < 256

/-- The world behind the box of a head. -/
structure Boxed (w W : World) (wd : Nat) (A1 A2 : Option Addr) (n1 c1 n2 c2 : Nat) : Prop where
  bel : Below w.heap.size w W
  size : W.heap.size = w.heap.size + 1
  c0 : W.cell? ⟨w.heap.size, 0, none⟩ = some (.int .u8 wd)
  c1 : W.cell? ⟨w.heap.size, 1, none⟩ = some (.slice A1 n1 c1)
  c2 : W.cell? ⟨w.heap.size, 2, none⟩ = some (.slice A2 n2 c2)
theorem Boxed.new (w : World) (wd : Nat) (A1 A2 : Option Addr) (n1 c1 n2 c2 : Nat) : Boxed w (w.alloc (.cells #[.int .u8 wd, .slice A1 n1 c1, .slice A2 n2 c2] 26)) wd A1 A2 n1 c1 n2 c2 :=
  ⟨(Below.refl _ _).alloc (Nat.le_refl _) _, heap_new_size _ _, World.cell?_alloc_mark w _ 26 (0, 0) 0, World.cell?_alloc_mark w _ 26 (0, 0) 1, World.cell?_alloc_mark w _ 26 (0, 0) 2⟩
theorem Boxed.cells {w W w' : World} {wd : Nat} {A1 A2 : Option Addr} {n1 c1 n2 c2 : Nat} (h : Boxed w W wd A1 A2 n1 c1 n2 c2) (hb : Below W.heap.size W w') :
    w'.cell? ⟨w.heap.size, 0, none⟩ = some (.int .u8 wd) ∧ w'.cell? ⟨w.heap.size, 1, none⟩ = some (.slice A1 n1 c1) ∧ w'.cell? ⟨w.heap.size, 2, none⟩ = some (.slice A2 n2 c2) :=
  have hl : w.heap.size < W.heap.size := by rw [h.size]; omega
  ⟨(hb.cell (p := ⟨w.heap.size, 0, none⟩) hl).trans h.c0, (hb.cell (p := ⟨w.heap.size, 1, none⟩) hl).trans h.c1, (hb.cell (p := ⟨w.heap.size, 2, none⟩) hl).trans h.c2⟩
theorem Boxed.below {w W w' : World} {wd : Nat} {A1 A2 : Option Addr} {n1 c1 n2 c2 : Nat} (h : Boxed w W wd A1 A2 n1 c1 n2 c2) (hb : Below W.heap.size W w') : Below w.heap.size w w' :=
  h.bel.trans (hb.mono (by rw [h.size]; omega))
theorem HeadArg.below {w w' : World} {wd : Nat} {A1 A2 : Option Addr} {n1 n2 : Nat} {f1 : Nat → Bool} {f2 : Nat → Nat} (h : HeadArg w wd A1 A2 n1 n2 f1 f2) (hb : Below w.heap.size w w') : HeadArg w' wd A1 A2 n1 n2 f1 f2 :=
  ⟨h.word, h.caps.below hb, h.igns.below hb, h.small⟩

def TrueBelow (w : World) (e : Ending) (w' : World) : Prop := e = .returned (.bool true) ∧ Below w.heap.size w w'
end Go.Proofs.YtdmkjfkdjhmpjaaDoor
