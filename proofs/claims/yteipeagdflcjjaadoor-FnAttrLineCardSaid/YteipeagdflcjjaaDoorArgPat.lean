/- A pattern as an argument. -/
import Derived.Test.YteipeagdflcjjaaDoorArgStrs
namespace Go.Proofs.YteipeagdflcjjaaDoor
open Go.RowKit Go.Deep Go.Joins Go.ChangeShapes Go.WideShapes Go.ChangeAt
set_option linter.unusedSimpArgs false
set_option linter.unusedVariables false
set_option maxRecDepth 100000

theorem boolKindP : Tryd.prog.underlying 4 = some .bool := by kernel_rfl
theorem cellsPat : Tryd.prog.cellsOf 36 = 4 := by kernel_rfl

theorem arg_pat {H : Type} {enc : TypeId × Value → H} {w : World} {base : Nat} {spare : Nat → Bool} {held : Bool} {r : Reach} {b0 : Nat} {v : Value} {d : DataW H} {p : List MemPlace}
    (hv : Value.okWide Tryd.prog w r b0 36 v) (h : DataW.Trod enc Tryd.prog w base spare held 36 v d p) :
    ∃ (A : Option Addr) (n c : Nat) (f : Nat → ByteArray) (b1 b2 b3 : Bool), v = .agg #[.slice A n c, .bool b1, .bool b2, .bool b3] ∧ n ≤ maxLen ∧ Strs w A n f := by
  obtain ⟨v0, v1, v2, v3, y0, y1, y2, y3, n, rfl, _, _, h0, h1, h2, h3⟩ := open_agg4 (P := Tryd.prog) Tryd.underlying36 (by kernel_rfl) cellsPat hv h
  obtain ⟨A, l, c, V, rfl, hc, hm, hr, hx⟩ := read_slice1 stringsKind cellsString h0
  obtain ⟨b1, hb1, _⟩ := DataW.trod_bool boolKindP h1
  obtain ⟨b2, hb2, _⟩ := DataW.trod_bool boolKindP h2
  obtain ⟨b3, hb3, _⟩ := DataW.trod_bool boolKindP h3
  obtain rfl := List.head_eq_of_cons_eq hb1
  obtain rfl := List.head_eq_of_cons_eq hb2
  obtain rfl := List.head_eq_of_cons_eq hb3
  refine ⟨A, l, c, fun i => (match V i with | .string s => s | _ => ⟨#[]⟩), b1, b2, b3, rfl, hm, hr.congr fun i hi => ?_⟩
  obtain ⟨m, y, hy⟩ := hx i hi
  obtain ⟨s, hs, _, hl⟩ := DataW.trod_string strKind hy
  simp only [List.head_eq_of_cons_eq hs]
end Go.Proofs.YteipeagdflcjjaaDoor
