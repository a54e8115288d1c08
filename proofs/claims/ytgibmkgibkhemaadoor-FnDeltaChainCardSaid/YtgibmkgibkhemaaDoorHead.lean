/- A disguise's head as an argument; zzFits17, isDisguise, disguise. -/
import Derived.Test.YtgibmkgibkhemaaDoorLib
import Derived.Laws.IdiomStrings
import Derived.Deep.DeepCutAuto
namespace Go.Proofs.YtgibmkgibkhemaaDoor
open Go.RowKit
set_option linter.unusedSimpArgs false
set_option linter.unusedVariables false

/-- A row of values that a slice reads. -/
def Rd (w : World) (A : Option Addr) (n : Nat) (f : Nat → Value) : Prop :=
  ∀ i, i < n → ∃ b off, A = some ⟨b, off, none⟩ ∧ b < w.heap.size ∧ w.cell? ⟨b, off + i, none⟩ = some (f i)
theorem Rd.below {w w' : World} {A : Option Addr} {n : Nat} {f : Nat → Value} (h : Rd w A n f) (hb : Below w.heap.size w w') : Rd w' A n f := by
  intro i hi
  obtain ⟨b, off, h1, h2, h3⟩ := h i hi
  exact ⟨b, off, h1, Nat.lt_of_lt_of_le h2 hb.size, (hb.cell (p := ⟨b, off + i, none⟩) h2).trans h3⟩

end Go.Proofs.YtgibmkgibkhemaaDoor
