/- Lists of lists of strings as arguments. -/
import Derived.Test.YteipeagdflcjjaaDoorArgStrs
import Derived.Test.YteipeagdflcjjaaDoorIxJ
namespace Go.Proofs.YteipeagdflcjjaaDoor
open Go.RowKit Go.Deep Go.Joins Go.ChangeShapes Go.WideShapes Go.ChangeAt
set_option linter.unusedSimpArgs false
set_option linter.unusedVariables false
set_option maxRecDepth 100000

theorem strssKind : Tryd.prog.underlying 22 = some (.slice 23) := by kernel_rfl
theorem cellsStrs : Tryd.prog.cellsOf 23 = 1 := by kernel_rfl
theorem arg_strss {H : Type} {enc : TypeId × Value → H} {w : World} {base : Nat} {spare : Nat → Bool} {held : Bool} {r : Reach} {b0 : Nat} {v : Value} {d : DataW H} {p : List MemPlace}
    (hv : Value.okWide Tryd.prog w r b0 22 v) (h : DataW.Trod enc Tryd.prog w base spare held 22 v d p) :
    ∃ (A : Option Addr) (n c : Nat) (N : Nat → Nat) (F : Nat → Nat → ByteArray), v = .slice A n c ∧ n ≤ maxLen ∧ Ix.Paths w A n N F := by
  obtain ⟨a, len, cap, rfl⟩ := okWide_slice strssKind hv
  obtain ⟨fuel, h⟩ := h
  obtain ⟨A, n, c, V, hv2, hc, hm, hr, hx⟩ := read_slice1 strssKind cellsStrs h
  have hall : ∀ i, ∃ p : Nat × (Nat → ByteArray), i < n → ∃ A' c', V i = .slice A' p.1 c' ∧ p.1 ≤ maxLen ∧ Strs w A' p.1 p.2 := fun i => by
    by_cases hi : i < n
    · obtain ⟨m, y, hy⟩ := hx i hi
      obtain ⟨A', n', c', f, hv', hm', hr', _⟩ := read_strs stringsKind strKind cellsString hy
      exact ⟨(n', f), fun _ => ⟨A', c', hv', hm', hr'⟩⟩
    · exact ⟨(0, fun _ => ⟨#[]⟩), fun h => absurd h hi⟩
  have hch : ∃ q : Nat → Nat × (Nat → ByteArray), ∀ i, i < n → ∃ A' c', V i = .slice A' (q i).1 c' ∧ (q i).1 ≤ maxLen ∧ Strs w A' (q i).1 (q i).2 := ⟨fun i => Classical.choose (hall i), fun i => Classical.choose_spec (hall i)⟩
  obtain ⟨q, hq⟩ := hch
  refine ⟨A, n, c, fun i => (q i).1, fun i => (q i).2, hv2, hm, fun i hi => ?_⟩
  obtain ⟨b, off, h1, h2, h3⟩ := hr i hi
  obtain ⟨A', c', h4, h5, h6⟩ := hq i hi
  exact ⟨b, off, A', c', h1, h2, h3.trans (by rw [h4]), h5, h6⟩
end Go.Proofs.YteipeagdflcjjaaDoor
