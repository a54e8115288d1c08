/- FnAttrLines, proved for every input: of one to five lines that give one attribute the last one whose pattern of one part matches the path's last name tells the attribute's state and value; where none matches nothing is told (within the statement's own sizes; the listed variables hold what the program's text lays into them). -/
import Derived.Test.YteipeagdflcjjaaDoorRows
import Derived.Test.YteipeagdflcjjaaDoorCards
import Derived.Test.YteipeagdflcjjaaDoorTie
import Derived.Stop.LaidErr
import Derived.LaidLaws
import Derived.SevenTiedAt
import Derived.Test.YteipeagdflcjjaaDoorQLawAtLines
import Derived.Test.YteipeagdflcjjaaDoorQArgGas
namespace Go.Proofs.YteipeagdflcjjaaDoor.fnAttrLines
open Go.ChangeShapes Go.WideShapes Go.ChangeAt Go.RowKit
open Go.ChangeMaps (open_string shut_string)
set_option linter.unusedVariables false
set_option linter.unusedSimpArgs false

theorem own : ownKnob Tryd.prog.godebug = none := by kernel_rfl
theorem laidOut : laidOutB Tryd.prog = true := by kernel_rfl

theorem star : "*" ++ "errors.errorString" = "*errors.errorString" := by decide
theorem rowPtr (u : TypeId) (h : Tryd.prog.typeName? 3 u = some "*errors.errorString") : u = 178 :=
  typeName_ptr_named (nm := "errors.errorString") (by rw [star]; kernel_rfl) (by kernel_rfl) (by decide) u (by rw [star]; exact h)
theorem glob0 : Tryd.prog.globalNamed "io.EOF" = some 6 := by kernel_rfl
theorem globType0 : (Tryd.prog.globals[6]?).map (·.type) = some 66 := by kernel_rfl
theorem errAt0 {W : World} (h : laidMet Tryd.prog Rows.fnAttrLinesRow.laid W) : ∃ (a : Addr) (msg : ByteArray), ErrAt W 6 a msg := by
  obtain ⟨a, s, hv, hc, ht, hz⟩ := laid_sentinel h (g := 6) glob0 globType0 Tryd.underlying66 rowPtr Tryd.underlying178 Tryd.underlying208 rfl rfl Tryd.underlying9 (by kernel_rfl) (by kernel_rfl)
  have hvc : W.cell? ⟨6, 0, none⟩ = some (.iface 178 (.pointer (some a))) := by simpa using World.var?_cell glob0 hv 0
  refine ⟨a, s, hvc, hc, ?_, (cell_at hvc).1, (cell_at hc).1⟩
  intro e
  have : s.data.toList.length = 0 := by rw [Array.length_toList]; exact e
  rw [ht] at this
  simp at this
noncomputable def low : Nat := (World.holding Tryd.prog default ⟨#[], #[], []⟩).heap.size
noncomputable def laidWorld (os : Os) : World :=
  let w0 := World.holding Tryd.prog os ⟨#[.cells #[.string ⟨#[69, 79, 70]⟩] 208, .cells #[.string ⟨#[109, 117, 108, 116, 105, 112, 108, 101, 32, 82, 101, 97, 100, 32, 99, 97, 108, 108, 115, 32, 114, 101, 116, 117, 114, 110, 32, 110, 111, 32, 100, 97, 116, 97, 32, 111, 114, 32, 101, 114, 114, 111, 114]⟩] 208, .cells #[.string ⟨#[98, 117, 102, 105, 111, 46, 83, 99, 97, 110, 110, 101, 114, 58, 32, 116, 111, 107, 101, 110, 32, 116, 111, 111, 32, 108, 111, 110, 103]⟩] 208, .cells #[.string ⟨#[98, 117, 102, 105, 111, 46, 83, 99, 97, 110, 110, 101, 114, 58, 32, 83, 112, 108, 105, 116, 70, 117, 110, 99, 32, 114, 101, 116, 117, 114, 110, 115, 32, 110, 101, 103, 97, 116, 105, 118, 101, 32, 97, 100, 118, 97, 110, 99, 101, 32, 99, 111, 117, 110, 116]⟩] 208, .cells #[.string ⟨#[98, 117, 102, 105, 111, 46, 83, 99, 97, 110, 110, 101, 114, 58, 32, 83, 112, 108, 105, 116, 70, 117, 110, 99, 32, 114, 101, 116, 117, 114, 110, 115, 32, 97, 100, 118, 97, 110, 99, 101, 32, 99, 111, 117, 110, 116, 32, 98, 101, 121, 111, 110, 100, 32, 105, 110, 112, 117, 116]⟩] 208, .cells #[.string ⟨#[98, 117, 102, 105, 111, 46, 83, 99, 97, 110, 110, 101, 114, 58, 32, 82, 101, 97, 100, 32, 114, 101, 116, 117, 114, 110, 101, 100, 32, 105, 109, 112, 111, 115, 115, 105, 98, 108, 101, 32, 99, 111, 117, 110, 116]⟩] 208, .cells #[.string ⟨#[102, 105, 110, 97, 108, 32, 116, 111, 107, 101, 110]⟩] 208, .cells #[.string ⟨#[109, 97, 99, 114, 111, 32, 110, 111, 116, 32, 97, 108, 108, 111, 119, 101, 100]⟩] 208, .cells #[.string ⟨#[105, 110, 118, 97, 108, 105, 100, 32, 97, 116, 116, 114, 105, 98, 117, 116, 101, 32, 110, 97, 109, 101]⟩] 208], #[], []⟩
  { w0 with heap := ((((((((w0.heap.modify 6 fun
      | .cells _ t frozen => .cells #[.iface 178 (.pointer (some ⟨low, 0, none⟩))] t frozen
      | o => o).modify 5 fun
      | .cells _ t frozen => .cells #[.iface 178 (.pointer (some ⟨low + 1, 0, none⟩))] t frozen
      | o => o).modify 3 fun
      | .cells _ t frozen => .cells #[.iface 178 (.pointer (some ⟨low + 2, 0, none⟩))] t frozen
      | o => o).modify 8 fun
      | .cells _ t frozen => .cells #[.iface 178 (.pointer (some ⟨low + 3, 0, none⟩))] t frozen
      | o => o).modify 9 fun
      | .cells _ t frozen => .cells #[.iface 178 (.pointer (some ⟨low + 4, 0, none⟩))] t frozen
      | o => o).modify 4 fun
      | .cells _ t frozen => .cells #[.iface 178 (.pointer (some ⟨low + 5, 0, none⟩))] t frozen
      | o => o).modify 2 fun
      | .cells _ t frozen => .cells #[.iface 178 (.pointer (some ⟨low + 6, 0, none⟩))] t frozen
      | o => o).modify 1 fun
      | .cells _ t frozen => .cells #[.iface 178 (.pointer (some ⟨low + 7, 0, none⟩))] t frozen
      | o => o).modify 0 fun
      | .cells _ t frozen => .cells #[.iface 178 (.pointer (some ⟨low + 8, 0, none⟩))] t frozen
      | o => o }
theorem laidWorld_met (os : Os) (args : Array Value) : laidMet Tryd.prog Rows.fnAttrLinesRow.laid ((laidWorld os).forCall (fun _ _ => 0) ⟨#[], args, []⟩).memory :=
  laidMet_of_run' 8 (by kernel_rfl) (by kernel_rfl)

set_option maxRecDepth 100000 in
theorem lifted (os : Os) (started : os.Started) (H : Type) (enc : TypeId × Value → H) :
    ReturnsInHanded {} Tryd.checked os 7 .any (fun w args => (Rows.fnAttrLinesSpec.pre enc Tryd.prog Tryd.f7 [] false w args ∧ laidMet Tryd.prog Rows.fnAttrLinesRow.laid w) ∧ sizedMet enc Tryd.prog Tryd.f7 (OpenSpec.ofChange Rows.fnAttrLinesSpec) false w args) (Rows.fnAttrLinesSpec.post enc Tryd.prog Tryd.f7 false true false false) := by
  refine returnsInHanded_of_change_and (C := Tryd.checked) (X := fun w _ => laidMet Tryd.prog Rows.fnAttrLinesRow.laid w) (fun _ _ _ hh h => h.of_heap hh) own started (by kernel_rfl) Tryd.func7
    (ChangeSpec.witness_at (enc := enc) (C := Tryd.checked) (os := os) (X := fun w _ => laidMet Tryd.prog Rows.fnAttrLinesRow.laid w) false (laidWorld os) #[.slice none 0 0, .slice none 0 0, .slice none 0 0] 8 rfl (by kernel_rfl) (by kernel_rfl) (by kernel_rfl) (by kernel_rfl) (by kernel_rfl) (laidWorld_met os _)) ?_
  intro W base args ds gs before hval0 hW hcnd hsz0 hLaid _
  obtain ⟨ea0, em0, hE0⟩ := errAt0 hLaid
  have hval : ∀ (j : Nat) t v, Tryd.f7.params[j]? = some t → args[j]? = some v → Value.okWide Tryd.prog W .any base t v := hval0
  have hW' := hW
  obtain ⟨p, q, hA0, hV, rfl, hfz, hnd⟩ := hW
  have hA : DataW.TrodAll enc Tryd.prog W 0 (fun _ => true) true Tryd.f7.params.toList args.toList ds p := hA0
  rw [Tryd.params7] at hA hval
  obtain ⟨v0, vs0, d0, ds0, p0, q0, hargs, rfl, rfl, h0, r0⟩ := trodAll_cons hA
  obtain ⟨v1, vs1, d1, ds1, p1, q1, rfl, rfl, rfl, h1, r1⟩ := trodAll_cons r0
  obtain ⟨v2, vs2, d2, ds2, p2, q2, rfl, rfl, rfl, h2, r2⟩ := trodAll_cons r1
  obtain ⟨rfl, rfl, rfl⟩ := trodAll_nil r2
  obtain rfl : args = #[v0, v1, v2] := by cases args; simp_all
  obtain ⟨rfl, rfl⟩ := trodVars_none hV
  have k0 := h0
  have lt0 : ∀ x ∈ p0, x.block < W.heap.size := by obtain ⟨m, hm⟩ := k0; exact DataW.trod_lt m _ _ _ hm
  obtain ⟨A0, n0, c0, f0, rfl, m0, l0, a0⟩ := arg_strs (hval 0 23 v0 rfl rfl) h0
  have k1 := h1
  have lt1 : ∀ x ∈ p1, x.block < W.heap.size := by obtain ⟨m, hm⟩ := k1; exact DataW.trod_lt m _ _ _ hm
  obtain ⟨A1, n1, c1, f1, rfl, m1, l1, a1⟩ := arg_gas (hval 1 37 v1 rfl rfl) h1
  have k2 := h2
  have lt2 : ∀ x ∈ p2, x.block < W.heap.size := by obtain ⟨m, hm⟩ := k2; exact DataW.trod_lt m _ _ _ hm
  obtain ⟨A2, n2, c2, f2, rfl, m2, l2, a2⟩ := arg_strs (hval 2 23 v2 rfl rfl) h2
  clear hA0 hval0 hsz0
  refine (Am.lawAtLines_any _ _ _ _ _ _ _ _ _ _ _ _ _ _ W m0 a0 m1 l1 a1 m2 a2 hE0).mono fun e W' ⟨he, bel⟩ => ?_
  subst he
  exact ⟨_, rfl, _, _, _, [], _, [], hW', trodAll_mk1 (shut_bool Tryd.underlying4 _), (trodAll_cons_mk (Below.trod laidOut (by kernel_rfl) (of_decide_eq_true (by kernel_rfl)) k0 bel lt0) (trodAll_cons_mk (Below.trod laidOut (by kernel_rfl) (of_decide_eq_true (by kernel_rfl)) k1 bel lt1) (trodAll_cons_mk (Below.trod laidOut (by kernel_rfl) (of_decide_eq_true (by kernel_rfl)) k2 bel lt2) trodAll_mk0))), rfl, bel.frame _, fun h => by cases h⟩

theorem over : Rows.fnAttrLinesRow.holds Tryd.pinned (OpenSpec.ofChange Rows.fnAttrLinesSpec) :=
  OpenClaim.holds_of_wide 7 Tryd.f7 rfl rfl rfl rfl rfl rfl rfl ⟨rfl, rfl, rfl, rfl, rfl⟩ rfl rfl rfl rfl rfl (by kernel_rfl) Tryd.func7 (by kernel_rfl)
    (of_decide_eq_true (by kernel_rfl)) (by unfold Func.isWrapper; first | (rw [if_pos (by decide +kernel)]; kernel_rfl) | (rw [if_neg (by decide +kernel)]; exact ⟨rfl, rfl⟩))
    (fun os started H enc _ => lifted os started H enc)

/-- The card: the row, its listed variables tied to the program's text. -/
theorem card_holds : Rows.FnAttrLinesCardSaid :=
  Claim7.holds_tied_plain_at .later [] [.sentinel, .sentinel, .sentinel, .sentinel, .sentinel, .sentinel, .sentinel, .sentinel, .sentinel] true (true, "dfa620ad9d912d271707f616bb1d3c6c1b4b78e0da9edd13f718599093909a9a") true
    over (fun _ h => by cases h) (by kernel_rfl) (fun _ h => by cases h) fnAttrLines_row_tie rfl ⟨rfl, rfl⟩ (by kernel_rfl) rfl
    (fun f fn hf hfn => by
      obtain rfl : f = 7 := Option.some.inj ((show Tryd.prog.funcNamed "pub-filiation/laws.FnAttrLines" = some 7 by kernel_rfl).symm.trans hf) |>.symm
      obtain rfl : fn = Tryd.f7 := (Option.some.inj (Tryd.func7.symm.trans hfn)).symm
      exact ⟨by kernel_rfl, fun j t ht => by
        rw [Tryd.params7] at ht
        have hall : ∀ t ∈ ([23, 37, 23] : List TypeId), Tryd.prog.wantsStandIn t = false := by
          intro t ht
          simp only [List.mem_cons, List.not_mem_nil, or_false] at ht
          rcases ht with rfl | rfl | rfl <;> kernel_rfl
        refine hall t ?_
        have := Array.mem_of_getElem? ht
        simpa using this⟩)
    (by kernel_rfl)
end Go.Proofs.YteipeagdflcjjaaDoor.fnAttrLines
namespace Go.Proofs.YteipeagdflcjjaaDoor
theorem fnAttrLines_holds : Rows.FnAttrLinesCardSaid := fnAttrLines.card_holds
#print axioms fnAttrLines_holds
end Go.Proofs.YteipeagdflcjjaaDoor
