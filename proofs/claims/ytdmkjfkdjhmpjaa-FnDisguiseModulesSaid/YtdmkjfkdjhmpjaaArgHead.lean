/- A disguise's head as an argument. -/
import Derived.Test.YtdmkjfkdjhmpjaaArgs
import Derived.Test.YtdmkjfkdjhmpjaaHeadArg
namespace Go.Proofs.Ytdmkjfkdjhmpjaa
open Go.RowKit Go.Deep Go.Joins Go.ChangeShapes Go.WideShapes Go.ChangeAt
set_option linter.unusedSimpArgs false
set_option linter.unusedVariables false

theorem boolKind : Try.prog.underlying 4 = some .bool := by kernel_rfl
theorem boolsKind : Try.prog.underlying 22 = some (.slice 4) := by kernel_rfl
theorem cellsBool : Try.prog.cellsOf 4 = 1 := by kernel_rfl
theorem cellsU8 : Try.prog.cellsOf 5 = 1 := by kernel_rfl
theorem cellsHead : Try.prog.cellsOf 25 = 3 := by kernel_rfl

theorem arg_head {H : Type} {enc : TypeId × Value → H} {w : World} {base : Nat} {spare : Nat → Bool} {held : Bool} {r : Reach} {b0 : Nat} {v : Value} {d : DataW H} {p : List MemPlace}
    (hv : Value.okWide Try.prog w r b0 25 v) (h : DataW.Trod enc Try.prog w base spare held 25 v d p) :
    ∃ (wd : Nat) (A1 A2 : Option Addr) (n1 c1 n2 c2 : Nat) (f1 : Nat → Bool) (f2 : Nat → Nat), v = .agg #[.int .u8 wd, .slice A1 n1 c1, .slice A2 n2 c2] ∧ HeadArg w wd A1 A2 n1 n2 f1 f2 := by
  obtain ⟨v0, v1, v2, y0, y1, y2, n, rfl, _, _, h0, h1, h2⟩ := open_agg3 (P := Try.prog) Try.underlying25 (by kernel_rfl) cellsHead hv h
  obtain ⟨z, hz, _, hw⟩ := DataW.trod_int byteKind h0
  obtain ⟨A1, n1, c1, f1, rfl, _, hr1⟩ := read_bools boolsKind boolKind cellsBool h1
  obtain ⟨A2, n2, c2, f2, rfl, _, hr2, hs2⟩ := read_u8s bytesKind byteKind cellsU8 h2
  have := wf_u8 hw
  obtain rfl := List.head_eq_of_cons_eq hz
  refine ⟨z.toNat, A1, A2, n1, c1, n2, c2, f1, f2, ?_, ⟨by omega, hr1, hr2, hs2⟩⟩
  rw [show ((z.toNat : Nat) : Int) = z by omega]

theorem arg_bools {H : Type} {enc : TypeId × Value → H} {w : World} {base : Nat} {spare : Nat → Bool} {held : Bool} {r : Reach} {b0 : Nat} {v : Value} {d : DataW H} {p : List MemPlace}
    (hv : Value.okWide Try.prog w r b0 22 v) (h : DataW.Trod enc Try.prog w base spare held 22 v d p) :
    ∃ (A : Option Addr) (n c : Nat) (f : Nat → Bool), v = .slice A n c ∧ n ≤ maxLen ∧ Rd w A n (fun i => .bool (f i)) := by
  obtain ⟨a, len, cap, rfl⟩ := okWide_slice boolsKind hv
  obtain ⟨fuel, hf⟩ := h
  exact read_bools boolsKind boolKind cellsBool (by simpa [Value.cells] using hf)
end Go.Proofs.Ytdmkjfkdjhmpjaa
