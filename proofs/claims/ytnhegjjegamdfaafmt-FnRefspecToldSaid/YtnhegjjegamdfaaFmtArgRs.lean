/- A refspec as an argument. -/
import Derived.Test.YtnhegjjegamdfaaFmtArgs
namespace Go.Proofs.YtnhegjjegamdfaaFmt
open Go.RowKit Go.Deep Go.Joins Go.ChangeShapes Go.WideShapes Go.ChangeAt
set_option linter.unusedSimpArgs false
set_option linter.unusedVariables false
set_option maxRecDepth 100000

theorem boolKindS : Tryf.prog.underlying 4 = some .bool := by kernel_rfl
theorem strKindS : Tryf.prog.underlying 9 = some .string := by kernel_rfl
theorem cellsBoolS : Tryf.prog.cellsOf 4 = 1 := by kernel_rfl
theorem cellsStrS : Tryf.prog.cellsOf 9 = 1 := by kernel_rfl
theorem cellsRs : Tryf.prog.cellsOf 23 = 6 := by kernel_rfl
theorem array6 {α : Type} {cs : Array α} (h : cs.size = 6) : ∃ c0 c1 c2 c3 c4 c5, cs = #[c0, c1, c2, c3, c4, c5] := by
  obtain ⟨l⟩ := cs
  match l, h with
  | [c0, c1, c2, c3, c4, c5], _ => exact ⟨c0, c1, c2, c3, c4, c5, rfl⟩

theorem arg_rs {H : Type} {enc : TypeId × Value → H} {w : World} {base : Nat} {spare : Nat → Bool} {held : Bool} {r : Reach} {b0 : Nat} {v : Value} {d : DataW H} {p : List MemPlace}
    (hv : Value.okWide Tryf.prog w r b0 23 v) (h : DataW.Trod enc Tryf.prog w base spare held 23 v d p) :
    ∃ (f wl : Bool) (a b c d : ByteArray), v = .agg #[.bool f, .bool wl, .string a, .string b, .string c, .string d] := by
  obtain ⟨cs, rfl, hsz⟩ := okWide_struct Tryf.underlying23 hv
  obtain ⟨c0, c1, c2, c3, c4, c5, rfl⟩ := array6 (hsz.trans cellsRs)
  obtain ⟨fuel, hf⟩ := h
  obtain ⟨xs, n, _, _, hl, hlen, hg⟩ := DataW.trod_struct Tryf.underlying23 hf
  have hat : ∀ i, i < 6 → ∃ y, xs[i]? = some y := fun i hi => ⟨xs[i]'(by rw [hlen]; exact hi), List.getElem?_eq_getElem _⟩
  obtain ⟨y0, e0⟩ := hat 0 (by omega)
  obtain ⟨y1, e1⟩ := hat 1 (by omega)
  obtain ⟨y2, e2⟩ := hat 2 (by omega)
  obtain ⟨y3, e3⟩ := hat 3 (by omega)
  obtain ⟨y4, e4⟩ := hat 4 (by omega)
  obtain ⟨y5, e5⟩ := hat 5 (by omega)
  have h0 := (hg 0 _ rfl).trans e0
  have h1 := (hg 1 _ rfl).trans e1
  have h2 := (hg 2 _ rfl).trans e2
  have h3 := (hg 3 _ rfl).trans e3
  have h4 := (hg 4 _ rfl).trans e4
  have h5 := (hg 5 _ rfl).trans e5
  simp only [cellsBoolS, cellsStrS, Value.cells, List.drop_zero, List.drop_succ_cons, List.take_succ_cons, List.take_zero] at h0 h1 h2 h3 h4 h5
  obtain ⟨b0, z0, _⟩ := DataW.trod_bool boolKindS h0
  obtain ⟨b1, z1, _⟩ := DataW.trod_bool boolKindS h1
  obtain ⟨s2, z2, _⟩ := DataW.trod_string strKindS h2
  obtain ⟨s3, z3, _⟩ := DataW.trod_string strKindS h3
  obtain ⟨s4, z4, _⟩ := DataW.trod_string strKindS h4
  obtain ⟨s5, z5, _⟩ := DataW.trod_string strKindS h5
  obtain rfl := List.head_eq_of_cons_eq z0
  obtain rfl := List.head_eq_of_cons_eq z1
  obtain rfl := List.head_eq_of_cons_eq z2
  obtain rfl := List.head_eq_of_cons_eq z3
  obtain rfl := List.head_eq_of_cons_eq z4
  obtain rfl := List.head_eq_of_cons_eq z5
  exact ⟨_, _, _, _, _, _, rfl⟩
end Go.Proofs.YtnhegjjegamdfaaFmt
