/- A disguise's head as an argument; zzFits17, isDisguise, disguise. -/
import Derived.Test.YtdmkjfkdjhmpjaaDoorLib
import Derived.Laws.IdiomStrings
import Derived.Deep.DeepCutAuto
namespace Go.Proofs.YtdmkjfkdjhmpjaaDoor
open Go.RowKit
set_option linter.unusedSimpArgs false
set_option linter.unusedVariables false

set_option maxHeartbeats 400000 in
theorem fits17_any (wd : Int) (A1 A2 : Option Addr) (n1 c1 n2 c2 : Nat) (w : World) :
    Calls Tryd.prog 5 #[.agg #[.int .u8 wd, .slice A1 n1 c1, .slice A2 n2 c2]] w fun e w' => e = .returned (.bool (decide (n1 ≤ 2147483647 ∧ n2 ≤ 2147483647))) ∧ Below w.heap.size w w' := by
  by_cases h1 : n1 ≤ 2147483647
  · have h1' : (n1 : Int) ≤ 2147483647 := by omega
    by_cases h2 : n2 ≤ 2147483647
    · have h2' : (n2 : Int) ≤ 2147483647 := by omega
      go_enter Tryd.func5, Tryd.ntmps5
      go_wp2
      go_ret
      exact ⟨ret_bool (decide_eq_true ⟨h1, h2⟩).symm, (Below.refl _ _).alloc (Nat.le_refl _) _⟩
    · have h2' : (2147483647 : Int) < n2 := by omega
      go_enter Tryd.func5, Tryd.ntmps5
      go_wp2
      go_ret
      exact ⟨ret_bool (decide_eq_false (fun h => h2 h.2)).symm, (Below.refl _ _).alloc (Nat.le_refl _) _⟩
  · have h1' : (2147483647 : Int) < n1 := by omega
    go_enter Tryd.func5, Tryd.ntmps5
    go_wp2
    go_ret
    exact ⟨ret_bool (decide_eq_false (fun h => h1 h.1)).symm, (Below.refl _ _).alloc (Nat.le_refl _) _⟩

set_option maxHeartbeats 400000 in
theorem isDisguise_any (wd : Int) (A1 A2 : Option Addr) (n1 c1 n2 c2 : Nat) (w : World) :
    Calls Tryd.prog 6 #[.agg #[.int .u8 wd, .slice A1 n1 c1, .slice A2 n2 c2]] w fun e w' => e = .returned (.bool (decide (n1 ≤ 12 ∧ n2 ≤ 12))) ∧ Below w.heap.size w w' := by
  by_cases h1 : n1 ≤ 12
  · have h1' : (n1 : Int) ≤ 12 := by omega
    go_enter Tryd.func6, Tryd.ntmps6
    go_wp2
    go_ret
    exact ⟨ret_bool (by rw [Bool.eq_iff_iff, decide_eq_true_iff, decide_eq_true_iff]; omega), (Below.refl _ _).alloc (Nat.le_refl _) _⟩
  · have h1' : (12 : Int) < n1 := by omega
    go_enter Tryd.func6, Tryd.ntmps6
    go_wp2
    go_ret
    exact ⟨ret_bool (by first | rfl | exact (decide_eq_false (fun h => h1 h.1)).symm), (Below.refl _ _).alloc (Nat.le_refl _) _⟩

/-- A row of values that a slice reads. -/
def Rd (w : World) (A : Option Addr) (n : Nat) (f : Nat → Value) : Prop :=
  ∀ i, i < n → ∃ b off, A = some ⟨b, off, none⟩ ∧ b < w.heap.size ∧ w.cell? ⟨b, off + i, none⟩ = some (f i)
theorem Rd.below {w w' : World} {A : Option Addr} {n : Nat} {f : Nat → Value} (h : Rd w A n f) (hb : Below w.heap.size w w') : Rd w' A n f := by
  intro i hi
  obtain ⟨b, off, h1, h2, h3⟩ := h i hi
  exact ⟨b, off, h1, Nat.lt_of_lt_of_le h2 hb.size, (hb.cell (p := ⟨b, off + i, none⟩) h2).trans h3⟩

def smallStr (m : Nat) : Value → Bool | .string s => decide (s.size ≤ m) | _ => false
theorem all_small {C : Array Value} {m : Nat} (h : C.all (smallStr m) = true) (i : Nat) (hi : i < C.size) : ∃ nm : ByteArray, nm.size ≤ m ∧ C[i]? = some (.string nm) := by
  have h2 := Array.all_eq_true.mp h i hi
  rw [Array.getElem?_eq_getElem hi]
  generalize C[i] = v at h2
  cases v <;> simp [smallStr] at h2
  exact ⟨_, h2, rfl⟩

end Go.Proofs.YtdmkjfkdjhmpjaaDoor
