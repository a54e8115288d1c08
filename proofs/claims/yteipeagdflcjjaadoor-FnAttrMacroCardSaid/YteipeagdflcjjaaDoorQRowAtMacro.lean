/- FnAttrMacro, proved for every input: a macro's line is read, where macros are allowed, as the macro's name and its one to five attributes, and refused where they are not; a path whose last name matches the pattern of one part to which the macro is set has the macro and all its attributes, and no others, and a path that does not match has none (within the statement's own sizes; the listed variables hold what the program's text lays into them). -/
import Derived.Test.YteipeagdflcjjaaDoorRows
import Derived.Test.YteipeagdflcjjaaDoorCards
import Derived.Test.YteipeagdflcjjaaDoorTie
import Derived.Stop.LaidErr
import Derived.LaidLaws
import Derived.SevenTiedAt
import Derived.Test.YteipeagdflcjjaaDoorQLawAtMacro
import Derived.Test.YteipeagdflcjjaaDoorQArgGas
namespace Go.Proofs.YteipeagdflcjjaaDoor.fnAttrMacro
open Go.ChangeShapes Go.WideShapes Go.ChangeAt Go.RowKit
open Go.ChangeMaps (open_string shut_string)
set_option linter.unusedVariables false
set_option linter.unusedSimpArgs false

theorem own : ownKnob Tryd.prog.godebug = none := by kernel_rfl
theorem laidOut : laidOutB Tryd.prog = true := by kernel_rfl

theorem star : "*" ++ "errors.errorString" = "*errors.errorString" := by decide
theorem rowPtr (u : TypeId) (h : Tryd.prog.typeName? 3 u = some "*errors.errorString") : u = 178 :=
  typeName_ptr_named (nm := "errors.errorString") (by rw [star]; kernel_rfl) (by kernel_rfl) (by decide) u (by rw [star]; exact h)
theorem glob0 : Tryd.prog.globalNamed "io.EOF" = some 6 := by kernel_rfl
theorem globType0 : (Tryd.prog.globals[6]?).map (·.type) = some 66 := by kernel_rfl
theorem errAt0 {W : World} (h : laidMet Tryd.prog Rows.fnAttrMacroRow.laid W) : ∃ (a : Addr) (msg : ByteArray), ErrAt W 6 a msg := by
  obtain ⟨a, s, hv, hc, ht, hz⟩ := laid_sentinel h (g := 6) glob0 globType0 Tryd.underlying66 rowPtr Tryd.underlying178 Tryd.underlying208 rfl rfl Tryd.underlying9 (by kernel_rfl) (by kernel_rfl)
  have hvc : W.cell? ⟨6, 0, none⟩ = some (.iface 178 (.pointer (some a))) := by simpa using World.var?_cell glob0 hv 0
  refine ⟨a, s, hvc, hc, ?_, (cell_at hvc).1, (cell_at hc).1⟩
  intro e
  have : s.data.toList.length = 0 := by rw [Array.length_toList]; exact e
  rw [ht] at this
  simp at this
theorem glob1 : Tryd.prog.globalNamed "pub-filiation/pub/gogit/gitattributes.ErrMacroNotAllowed" = some 1 := by kernel_rfl
theorem globType1 : (Tryd.prog.globals[1]?).map (·.type) = some 66 := by kernel_rfl
theorem errAt1 {W : World} (h : laidMet Tryd.prog Rows.fnAttrMacroRow.laid W) : ∃ (a : Addr) (msg : ByteArray), ErrAt W 1 a msg := by
  obtain ⟨a, s, hv, hc, ht, hz⟩ := laid_sentinel (laidMet.tail (laidMet.tail (laidMet.tail (laidMet.tail (laidMet.tail (laidMet.tail (laidMet.tail (h)))))))) (g := 1) glob1 globType1 Tryd.underlying66 rowPtr Tryd.underlying178 Tryd.underlying208 rfl rfl Tryd.underlying9 (by kernel_rfl) (by kernel_rfl)
  have hvc : W.cell? ⟨1, 0, none⟩ = some (.iface 178 (.pointer (some a))) := by simpa using World.var?_cell glob1 hv 0
  refine ⟨a, s, hvc, hc, ?_, (cell_at hvc).1, (cell_at hc).1⟩
  intro e
  have : s.data.toList.length = 0 := by rw [Array.length_toList]; exact e
  rw [ht] at this
  simp at this
noncomputable def low : Nat := (World.holding Tryd.prog default ⟨#[], #[], []⟩).heap.size
noncomputable def laidWorld (os : Os) : World :=
  let w0 := World.holding Tryd.prog os ⟨#[.cells #[.string ⟨#[69, 79, 70]⟩] 208, .cells #[.string ⟨#[109, 117, 108, 116, 105, 112, 108, 101, 32, 82, 101, 97, 100, 32, 99, 97, 108, 108, 115, 32, 114, 101, 116, 117, 114, 110, 32, 110, 111, 32, 100, 97, 116, 97, 32, 111, 114, 32, 101, 114, 114, 111, 114]⟩] 208, .cells #[.string ⟨#[98, 117, 102, 105, 111, 46, 83, 99, 97, 110, 110, 101, 114, 58, 32, 116, 111, 107, 101, 110, 32, 116, 111, 111, 32, 108, 111, 110, 103]⟩] 208, .cells #[.string ⟨#[98, 117, 102, 105, 111, 46, 83, 99, 97, 110, 110, 101, 114, 58, 32, 83, 112, 108, 105, 116, 70, 117, 110, 99, 32, 114, 101, 116, 117, 114, 110, 115, 32, 110, 101, 103, 97, 116, 105, 118, 101, 32, 97, 100, 118, 97, 110, 99, 101, 32, 99, 111, 117, 110, 116]⟩] 208, .cells #[.string ⟨#[98, 117, 102, 105, 111, 46, 83, 99, 97, 110, 110, 101, 114, 58, 32, 83, 112, 108, 105, 116, 70, 117, 110, 99, 32, 114, 101, 116, 117, 114, 110, 115, 32, 97, 100, 118, 97, 110, 99, 101, 32, 99, 111, 117, 110, 116, 32, 98, 101, 121, 111, 110, 100, 32, 105, 110, 112, 117, 116]⟩] 208, .cells #[.string ⟨#[98, 117, 102, 105, 111, 46, 83, 99, 97, 110, 110, 101, 114, 58, 32, 82, 101, 97, 100, 32, 114, 101, 116, 117, 114, 110, 101, 100, 32, 105, 109, 112, 111, 115, 115, 105, 98, 108, 101, 32, 99, 111, 117, 110, 116]⟩] 208, .cells #[.string ⟨#[102, 105, 110, 97, 108, 32, 116, 111, 107, 101, 110]⟩] 208, .cells #[.string ⟨#[109, 97, 99, 114, 111, 32, 110, 111, 116, 32, 97, 108, 108, 111, 119, 101, 100]⟩] 208, .cells #[.string ⟨#[105, 110, 118, 97, 108, 105, 100, 32, 97, 116, 116, 114, 105, 98, 117, 116, 101, 32, 110, 97, 109, 101]⟩] 208], #[], []⟩
  { w0 with heap := ((((((((w0.heap.modify 6 fun
      | .cells _ t frozen => .cells #[.iface 178 (.pointer (some ⟨low, 0, none⟩))] t frozen
      | o => o).modify 5 fun
      | .cells _ t frozen => .cells #[.iface 178 (.pointer (some ⟨low + 1, 0, none⟩))] t frozen
      | o => o).modify 3 fun
      | .cells _ t frozen => .cells #[.iface 178 (.pointer (some ⟨low + 2, 0, none⟩))] t frozen
      | o => o).modify 8 fun
      | .cells _ t frozen => .cells #[.iface 178 (.pointer (some ⟨low + 3, 0, none⟩))] t frozen
      | o => o).modify 9 fun
      | .cells _ t frozen => .cells #[.iface 178 (.pointer (some ⟨low + 4, 0, none⟩))] t frozen
      | o => o).modify 4 fun
      | .cells _ t frozen => .cells #[.iface 178 (.pointer (some ⟨low + 5, 0, none⟩))] t frozen
      | o => o).modify 2 fun
      | .cells _ t frozen => .cells #[.iface 178 (.pointer (some ⟨low + 6, 0, none⟩))] t frozen
      | o => o).modify 1 fun
      | .cells _ t frozen => .cells #[.iface 178 (.pointer (some ⟨low + 7, 0, none⟩))] t frozen
      | o => o).modify 0 fun
      | .cells _ t frozen => .cells #[.iface 178 (.pointer (some ⟨low + 8, 0, none⟩))] t frozen
      | o => o }
theorem laidWorld_met (os : Os) (args : Array Value) : laidMet Tryd.prog Rows.fnAttrMacroRow.laid ((laidWorld os).forCall (fun _ _ => 0) ⟨#[], args, []⟩).memory :=
  laidMet_of_run' 8 (by kernel_rfl) (by kernel_rfl)

set_option maxRecDepth 100000 in
theorem lifted (os : Os) (started : os.Started) (H : Type) (enc : TypeId × Value → H) :
    ReturnsInHanded {} Tryd.checked os 9 .any (fun w args => (Rows.fnAttrMacroSpec.pre enc Tryd.prog Tryd.f9 [] false w args ∧ laidMet Tryd.prog Rows.fnAttrMacroRow.laid w) ∧ sizedMet enc Tryd.prog Tryd.f9 (OpenSpec.ofChange Rows.fnAttrMacroSpec) false w args) (Rows.fnAttrMacroSpec.post enc Tryd.prog Tryd.f9 false true false false) := by
  refine returnsInHanded_of_change_and (C := Tryd.checked) (X := fun w _ => laidMet Tryd.prog Rows.fnAttrMacroRow.laid w) (fun _ _ _ hh h => h.of_heap hh) own started (by kernel_rfl) Tryd.func9
    (ChangeSpec.witness_at (enc := enc) (C := Tryd.checked) (os := os) (X := fun w _ => laidMet Tryd.prog Rows.fnAttrMacroRow.laid w) false (laidWorld os) #[.string ByteArray.empty, .slice none 0 0, .string ByteArray.empty, .slice none 0 0] 8 rfl (by kernel_rfl) (by kernel_rfl) (by kernel_rfl) (by kernel_rfl) (by kernel_rfl) (laidWorld_met os _)) ?_
  intro W base args ds gs before hval0 hW hcnd hsz0 hLaid _
  obtain ⟨ea0, em0, hE0⟩ := errAt0 hLaid
  obtain ⟨ea1, em1, hE1⟩ := errAt1 hLaid
  have hval : ∀ (j : Nat) t v, Tryd.f9.params[j]? = some t → args[j]? = some v → Value.okWide Tryd.prog W .any base t v := hval0
  have hW' := hW
  obtain ⟨p, q, hA0, hV, rfl, hfz, hnd⟩ := hW
  have hA : DataW.TrodAll enc Tryd.prog W 0 (fun _ => true) true Tryd.f9.params.toList args.toList ds p := hA0
  rw [Tryd.params9] at hA hval
  obtain ⟨v0, vs0, d0, ds0, p0, q0, hargs, rfl, rfl, h0, r0⟩ := trodAll_cons hA
  obtain ⟨v1, vs1, d1, ds1, p1, q1, rfl, rfl, rfl, h1, r1⟩ := trodAll_cons r0
  obtain ⟨v2, vs2, d2, ds2, p2, q2, rfl, rfl, rfl, h2, r2⟩ := trodAll_cons r1
  obtain ⟨v3, vs3, d3, ds3, p3, q3, rfl, rfl, rfl, h3, r3⟩ := trodAll_cons r2
  obtain ⟨rfl, rfl, rfl⟩ := trodAll_nil r3
  obtain rfl : args = #[v0, v1, v2, v3] := by cases args; simp_all
  obtain ⟨rfl, rfl⟩ := trodVars_none hV
  have k0 := h0
  have lt0 : ∀ x ∈ p0, x.block < W.heap.size := by obtain ⟨m, hm⟩ := k0; exact DataW.trod_lt m _ _ _ hm
  obtain ⟨s0, rfl, hd0, hp0, a0⟩ := open_string Tryd.underlying9 (hval 0 9 v0 rfl rfl) h0
  have k1 := h1
  have lt1 : ∀ x ∈ p1, x.block < W.heap.size := by obtain ⟨m, hm⟩ := k1; exact DataW.trod_lt m _ _ _ hm
  obtain ⟨A1, n1, c1, f1, rfl, m1, l1, a1⟩ := arg_gas (hval 1 37 v1 rfl rfl) h1
  have k2 := h2
  have lt2 : ∀ x ∈ p2, x.block < W.heap.size := by obtain ⟨m, hm⟩ := k2; exact DataW.trod_lt m _ _ _ hm
  obtain ⟨s2, rfl, hd2, hp2, a2⟩ := open_string Tryd.underlying9 (hval 2 9 v2 rfl rfl) h2
  have k3 := h3
  have lt3 : ∀ x ∈ p3, x.block < W.heap.size := by obtain ⟨m, hm⟩ := k3; exact DataW.trod_lt m _ _ _ hm
  obtain ⟨A3, n3, c3, f3, rfl, m3, l3, a3⟩ := arg_strs (hval 3 23 v3 rfl rfl) h3
  clear hA0 hval0 hsz0
  refine (Am.lawAtMacro_any _ _ _ _ _ _ _ _ _ _ _ _ _ _ W a0 m1 l1 a1 a2 m3 a3 hE0 hE1).mono fun e W' ⟨he, bel⟩ => ?_
  subst he
  exact ⟨_, rfl, _, _, _, [], _, [], hW', trodAll_mk1 (shut_bool Tryd.underlying4 _), (trodAll_cons_mk (Below.trod laidOut (by kernel_rfl) (of_decide_eq_true (by kernel_rfl)) k0 bel lt0) (trodAll_cons_mk (Below.trod laidOut (by kernel_rfl) (of_decide_eq_true (by kernel_rfl)) k1 bel lt1) (trodAll_cons_mk (Below.trod laidOut (by kernel_rfl) (of_decide_eq_true (by kernel_rfl)) k2 bel lt2) (trodAll_cons_mk (Below.trod laidOut (by kernel_rfl) (of_decide_eq_true (by kernel_rfl)) k3 bel lt3) trodAll_mk0)))), rfl, bel.frame _, fun h => by cases h⟩

theorem over : Rows.fnAttrMacroRow.holds Tryd.pinned (OpenSpec.ofChange Rows.fnAttrMacroSpec) :=
  OpenClaim.holds_of_wide 9 Tryd.f9 rfl rfl rfl rfl rfl rfl rfl ⟨rfl, rfl, rfl, rfl, rfl⟩ rfl rfl rfl rfl rfl (by kernel_rfl) Tryd.func9 (by kernel_rfl)
    (of_decide_eq_true (by kernel_rfl)) (by unfold Func.isWrapper; first | (rw [if_pos (by decide +kernel)]; kernel_rfl) | (rw [if_neg (by decide +kernel)]; exact ⟨rfl, rfl⟩))
    (fun os started H enc _ => lifted os started H enc)

/-- The card: the row, its listed variables tied to the program's text. -/
theorem card_holds : Rows.FnAttrMacroCardSaid :=
  Claim7.holds_tied_plain_at .later [] [.sentinel, .sentinel, .sentinel, .sentinel, .sentinel, .sentinel, .sentinel, .sentinel, .sentinel] true (true, "dfa620ad9d912d271707f616bb1d3c6c1b4b78e0da9edd13f718599093909a9a") true
    over (fun _ h => by cases h) (by kernel_rfl) (fun _ h => by cases h) fnAttrMacro_row_tie rfl ⟨rfl, rfl⟩ (by kernel_rfl) rfl
    (fun f fn hf hfn => by
      obtain rfl : f = 9 := Option.some.inj ((show Tryd.prog.funcNamed "pub-filiation/laws.FnAttrMacro" = some 9 by kernel_rfl).symm.trans hf) |>.symm
      obtain rfl : fn = Tryd.f9 := (Option.some.inj (Tryd.func9.symm.trans hfn)).symm
      exact ⟨by kernel_rfl, fun j t ht => by
        rw [Tryd.params9] at ht
        have hall : ∀ t ∈ ([9, 37, 9, 23] : List TypeId), Tryd.prog.wantsStandIn t = false := by
          intro t ht
          simp only [List.mem_cons, List.not_mem_nil, or_false] at ht
          rcases ht with rfl | rfl | rfl | rfl <;> kernel_rfl
        refine hall t ?_
        have := Array.mem_of_getElem? ht
        simpa using this⟩)
    (by kernel_rfl)
end Go.Proofs.YteipeagdflcjjaaDoor.fnAttrMacro
namespace Go.Proofs.YteipeagdflcjjaaDoor
theorem fnAttrMacro_holds : Rows.FnAttrMacroCardSaid := fnAttrMacro.card_holds
#print axioms fnAttrMacro_holds
end Go.Proofs.YteipeagdflcjjaaDoor
