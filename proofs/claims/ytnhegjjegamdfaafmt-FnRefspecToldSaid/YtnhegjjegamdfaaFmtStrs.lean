/- Lists of strings as arguments: zzFits3, lineSame; IsFileName; HasPrefix. -/
import Derived.Test.YtnhegjjegamdfaaFmtHead
import Derived.Test.YtnhegjjegamdfaaFmtWord
import Derived.Deep.QuietTactic
import Derived.BigQuiet
namespace Go.Proofs.YtnhegjjegamdfaaFmt
open Go.RowKit
set_option linter.unusedSimpArgs false
set_option linter.unusedVariables false

/-- A row of strings. -/
def Strs (w : World) (A : Option Addr) (n : Nat) (f : Nat → ByteArray) : Prop := Rd w A n (fun i => .string (f i))

theorem Strs.at {w : World} {A : Option Addr} {n : Nat} {f : Nat → ByteArray} (h : Strs w A n f) (k : Nat) (hk : k < n) : ∃ b off, A = some ⟨b, off, none⟩ ∧ b < w.heap.size ∧ w.cell? ⟨b, off + k, none⟩ = some (.string (f k)) := h k hk
theorem Strs.below {w w' : World} {A : Option Addr} {n : Nat} {f : Nat → ByteArray} (h : Strs w A n f) (hb : Below w.heap.size w w') : Strs w' A n f := Rd.below h hb

def Fits3Post (n : Nat) (f : Nat → ByteArray) (w : World) (e : Ending) (w' : World) : Prop :=
  ∃ r, e = .returned (.bool r) ∧ (r = true → n ≤ 2147483647 ∧ ∀ i, i < n → (f i).size ≤ 2147483647) ∧ w = w'


def SomeBool (w : World) (e : Ending) (w' : World) : Prop := ∃ r, e = .returned (.bool r) ∧ w = w'


/-- The text p stands ahead in s. -/
def pre (s p : ByteArray) : Bool := decide (p.size ≤ s.size) && (nb (s.extract 0 p.size) == nb p)


set_option maxHeartbeats 400000 in
theorem hasPrefixLite_any (s p : ByteArray) (w : World) (hs : s.size ≤ maxLen) (hp : p.size ≤ maxLen) :
    Calls Tryf.prog 46 #[.string s, .string p] w fun e w' => e = .returned (.bool (pre s p)) ∧ w = w' := by
  unfold maxLen at hs hp
  by_cases hle : p.size ≤ s.size
  · have hle' : (p.size : Int) ≤ s.size := by omega
    have hq := beq_str2 (s.extract 0 p.size) p
    have HQ : Hid (pre s p = (nb (s.extract 0 p.size) == nb p)) := Lib.hid (by unfold pre; rw [decide_eq_true hle]; rfl)
    generalize (nb (s.extract 0 p.size) == nb p) = B at hq HQ
    go_enter Tryf.func46, Tryf.ntmps46
    go_wp2
    go_ret
    exact ⟨ret_bool HQ.out.symm, rfl⟩
  · have hle' : (s.size : Int) < p.size := by omega
    have HQ : Hid (pre s p = false) := Lib.hid (by unfold pre; rw [decide_eq_false hle]; rfl)
    go_enter Tryf.func46, Tryf.ntmps46
    go_wp2
    go_ret
    exact ⟨ret_bool HQ.out.symm, rfl⟩

set_option maxHeartbeats 400000 in
theorem hasPrefix_any (s p : ByteArray) (w : World) (hs : s.size ≤ maxLen) (hp : p.size ≤ maxLen) :
    Calls Tryf.prog 39 #[.string s, .string p] w fun e w' => e = .returned (.bool (pre s p)) ∧ w = w' := by
  go_enter Tryf.func39, Tryf.ntmps39
  go_wp2_with fail
  with_reducible refine (hasPrefixLite_any _ _ _ hs hp).mono ?_
  rintro e w' ⟨rfl, rfl⟩
  generalize hB : pre s p = B
  have HB := Lib.hid hB; clear hB
  go_wp2
  go_ret
  exact ⟨ret_bool HB.out.symm, rfl⟩
end Go.Proofs.YtnhegjjegamdfaaFmt
