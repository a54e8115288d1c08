/- A disguise's head as an argument. -/
import Derived.Test.YtdmkjfkdjhmpjaaDoorArgs
import Derived.Test.YtdmkjfkdjhmpjaaDoorHeadArg
namespace Go.Proofs.YtdmkjfkdjhmpjaaDoor
open Go.RowKit Go.Deep Go.Joins Go.ChangeShapes Go.WideShapes Go.ChangeAt
set_option linter.unusedSimpArgs false
set_option linter.unusedVariables false

theorem boolKind : Tryd.prog.underlying 4 = some .bool := by kernel_rfl
theorem boolsKind : Tryd.prog.underlying 23 = some (.slice 4) := by kernel_rfl
theorem cellsBool : Tryd.prog.cellsOf 4 = 1 := by kernel_rfl
theorem cellsU8 : Tryd.prog.cellsOf 5 = 1 := by kernel_rfl
theorem cellsHead : Tryd.prog.cellsOf 26 = 3 := by kernel_rfl

theorem arg_head {H : Type} {enc : TypeId × Value → H} {w : World} {base : Nat} {spare : Nat → Bool} {held : Bool} {r : Reach} {b0 : Nat} {v : Value} {d : DataW H} {p : List MemPlace}
    (hv : Value.okWide Tryd.prog w r b0 26 v) (h : DataW.Trod enc Tryd.prog w base spare held 26 v d p) :
    ∃ (wd : Nat) (A1 A2 : Option Addr) (n1 c1 n2 c2 : Nat) (f1 : Nat → Bool) (f2 : Nat → Nat), v = .agg #[.int .u8 wd, .slice A1 n1 c1, .slice A2 n2 c2] ∧ HeadArg w wd A1 A2 n1 n2 f1 f2 := by
  obtain ⟨v0, v1, v2, y0, y1, y2, n, rfl, _, _, h0, h1, h2⟩ := open_agg3 (P := Tryd.prog) Tryd.underlying26 (by kernel_rfl) cellsHead hv h
  obtain ⟨z, hz, _, hw⟩ := DataW.trod_int byteKind h0
  obtain ⟨A1, n1, c1, f1, rfl, _, hr1⟩ := read_bools boolsKind boolKind cellsBool h1
  obtain ⟨A2, n2, c2, f2, rfl, _, hr2, hs2⟩ := read_u8s bytesKind byteKind cellsU8 h2
  have := wf_u8 hw
  obtain rfl := List.head_eq_of_cons_eq hz
  refine ⟨z.toNat, A1, A2, n1, c1, n2, c2, f1, f2, ?_, ⟨by omega, hr1, hr2, hs2⟩⟩
  rw [show ((z.toNat : Nat) : Int) = z by omega]

theorem arg_bools {H : Type} {enc : TypeId × Value → H} {w : World} {base : Nat} {spare : Nat → Bool} {held : Bool} {r : Reach} {b0 : Nat} {v : Value} {d : DataW H} {p : List MemPlace}
    (hv : Value.okWide Tryd.prog w r b0 23 v) (h : DataW.Trod enc Tryd.prog w base spare held 23 v d p) :
    ∃ (A : Option Addr) (n c : Nat) (f : Nat → Bool), v = .slice A n c ∧ n ≤ maxLen ∧ Rd w A n (fun i => .bool (f i)) := by
  obtain ⟨a, len, cap, rfl⟩ := okWide_slice boolsKind hv
  obtain ⟨fuel, hf⟩ := h
  exact read_bools boolsKind boolKind cellsBool (by simpa [Value.cells] using hf)
end Go.Proofs.YtdmkjfkdjhmpjaaDoor
