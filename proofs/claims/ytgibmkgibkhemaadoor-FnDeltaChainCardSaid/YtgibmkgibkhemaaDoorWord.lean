/- Words: spec.IsLineWord. -/
import Derived.Test.YtgibmkgibkhemaaDoorLib
namespace Go.Proofs.YtgibmkgibkhemaaDoor
open Go.RowKit
set_option linter.unusedSimpArgs false
set_option linter.unusedVariables false

/-- One byte of a word of n bytes. -/
def WordAt (n i c : Nat) : Prop := (97 ≤ c ∧ c ≤ 122) ∨ (i ≠ 0 ∧ i ≠ n - 1 ∧ ((48 ≤ c ∧ c ≤ 57) ∨ c = 46 ∨ c = 45))
def IsWord (s : ByteArray) : Prop := (∀ i, i < s.size → WordAt s.size i (bx s i)) ∧ 1 ≤ s.size ∧ s.size ≤ 30

def WordPost (s : ByteArray) (w : World) (e : Ending) (w' : World) : Prop := ∃ b : Bool, e = .returned (.bool b) ∧ (b = true ↔ IsWord s) ∧ w = w'

theorem word_no {s : ByteArray} {k : Nat} (hk : k < s.size) (h : ¬ WordAt s.size k (bx s k)) : (false = true ↔ IsWord s) :=
  ⟨fun h => absurd h (by decide), fun hw => absurd (hw.1 k hk) h⟩

end Go.Proofs.YtgibmkgibkhemaaDoor
