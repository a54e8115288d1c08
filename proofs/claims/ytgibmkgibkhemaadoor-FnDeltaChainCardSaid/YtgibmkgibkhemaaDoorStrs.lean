/- Lists of strings as arguments: zzFits3, lineSame; IsFileName; HasPrefix. -/
import Derived.Test.YtgibmkgibkhemaaDoorHead
import Derived.Test.YtgibmkgibkhemaaDoorWord
import Derived.Deep.QuietTactic
import Derived.BigQuiet
namespace Go.Proofs.YtgibmkgibkhemaaDoor
open Go.RowKit
set_option linter.unusedSimpArgs false
set_option linter.unusedVariables false

/-- A row of strings. -/
def Strs (w : World) (A : Option Addr) (n : Nat) (f : Nat → ByteArray) : Prop := Rd w A n (fun i => .string (f i))

theorem Strs.at {w : World} {A : Option Addr} {n : Nat} {f : Nat → ByteArray} (h : Strs w A n f) (k : Nat) (hk : k < n) : ∃ b off, A = some ⟨b, off, none⟩ ∧ b < w.heap.size ∧ w.cell? ⟨b, off + k, none⟩ = some (.string (f k)) := h k hk
theorem Strs.below {w w' : World} {A : Option Addr} {n : Nat} {f : Nat → ByteArray} (h : Strs w A n f) (hb : Below w.heap.size w w') : Strs w' A n f := Rd.below h hb

def Fits3Post (n : Nat) (f : Nat → ByteArray) (w : World) (e : Ending) (w' : World) : Prop :=
  ∃ r, e = .returned (.bool r) ∧ (r = true → n ≤ 2147483647 ∧ ∀ i, i < n → (f i).size ≤ 2147483647) ∧ w = w'

set_option maxHeartbeats 400000 in
theorem fits3_any (A : Option Addr) (n c : Nat) (f : Nat → ByteArray) (w : World) (hm : n ≤ maxLen) (h : Strs w A n f) :
    Calls Tryd.prog 12 #[.slice A n c] w (Fits3Post n f w) := by
  have H := Lib.hid h; clear h
  unfold maxLen at hm
  go_enter Tryd.func12, Tryd.ntmps12
  by_cases h1 : (n : Int) ≤ 2147483647
  · go_wp2
    go_loop [10] (fun i => ∃ k : Nat, k ≤ n ∧ i = .int .i64 k ∧ ∀ j, j < k → (f j).size ≤ 2147483647) (fun i => n - (intOf i).toNat)
    case atStart => exact ⟨0, Nat.zero_le _, rfl, fun j h => by omega⟩
    case round =>
      obtain ⟨k, hk, rfl, hall⟩ := hrel
      have HA := Lib.hid hall; clear hall
      by_cases hlt : k < n
      · obtain ⟨b, off, rfl, _, hcell⟩ := H.out.at k hlt
        by_cases hs : ((f k).size : Int) ≤ 2147483647
        · go_wp2
          go_round
          case rel =>
            refine ⟨k + 1, by omega, by go_num, fun j hj => ?_⟩
            by_cases e : j = k
            · subst e; omega
            · exact HA.out j (by omega)
          case measure => simp [intOf]; omega
        · have hs' : (2147483647 : Int) < (f k).size := by omega
          go_wp2
          go_ret
          exact ⟨false, rfl, fun h => (by cases h), rfl⟩
      · go_wp2
        go_ret
        exact ⟨true, rfl, fun _ => ⟨by omega, fun i hi => HA.out i (by omega)⟩, rfl⟩
  · have h1' : (2147483647 : Int) < n := by omega
    go_wp2
    go_ret
    exact ⟨false, rfl, fun h => (by cases h), rfl⟩

def SomeBool (w : World) (e : Ending) (w' : World) : Prop := ∃ r, e = .returned (.bool r) ∧ w = w'


/-- The text p stands ahead in s. -/
def pre (s p : ByteArray) : Bool := decide (p.size ≤ s.size) && (nb (s.extract 0 p.size) == nb p)



end Go.Proofs.YtgibmkgibkhemaaDoor
