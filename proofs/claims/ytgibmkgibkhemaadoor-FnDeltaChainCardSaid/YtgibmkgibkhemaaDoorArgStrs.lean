/- Lists of strings as arguments. -/
import Derived.Test.YtgibmkgibkhemaaDoorArgs
import Derived.Test.YtgibmkgibkhemaaDoorStrs
namespace Go.Proofs.YtgibmkgibkhemaaDoor
open Go.RowKit Go.Deep Go.Joins Go.ChangeShapes Go.WideShapes Go.ChangeAt
set_option linter.unusedSimpArgs false
set_option linter.unusedVariables false
set_option maxRecDepth 100000

theorem stringsKind : Tryd.prog.underlying 32 = some (.slice 9) := by kernel_rfl
theorem cellsString : Tryd.prog.cellsOf 9 = 1 := by kernel_rfl

theorem arg_strs {H : Type} {enc : TypeId × Value → H} {w : World} {base : Nat} {spare : Nat → Bool} {held : Bool} {r : Reach} {b0 : Nat} {v : Value} {d : DataW H} {p : List MemPlace}
    (hv : Value.okWide Tryd.prog w r b0 32 v) (h : DataW.Trod enc Tryd.prog w base spare held 32 v d p) :
    ∃ (A : Option Addr) (n c : Nat) (f : Nat → ByteArray), v = .slice A n c ∧ n ≤ maxLen ∧ n ≤ c ∧ Strs w A n f := by
  obtain ⟨a, len, cap, rfl⟩ := okWide_slice stringsKind hv
  obtain ⟨fuel, h⟩ := h
  obtain ⟨A, n, c, V, hv2, hc, hm, hr, hx⟩ := read_slice1 stringsKind cellsString h
  refine ⟨A, n, c, fun i => (match V i with | .string s => s | _ => ⟨#[]⟩), hv2, hm, hc, hr.congr fun i hi => ?_⟩
  obtain ⟨m, y, hy⟩ := hx i hi
  obtain ⟨s, hs, _, hl⟩ := DataW.trod_string strKind hy
  simp only [List.head_eq_of_cons_eq hs]
end Go.Proofs.YtgibmkgibkhemaaDoor
