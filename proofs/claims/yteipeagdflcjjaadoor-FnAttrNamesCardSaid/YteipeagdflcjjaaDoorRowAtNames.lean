/- FnAttrNames, proved for every input: an attribute may have an underscore in its name; a line with one of the signs * / : @ + % in a name is refused with the package's error; the empty line and a comment have no pattern and no attributes (names of words; the two error variables hold what the program's text lays into them). -/
import Derived.Test.YteipeagdflcjjaaDoorRows
import Derived.Test.YteipeagdflcjjaaDoorCards
import Derived.Test.YteipeagdflcjjaaDoorTie
import Derived.Stop.LaidErr
import Derived.LaidLaws
import Derived.SevenTiedAt
import Derived.Test.YteipeagdflcjjaaDoorLawAtNames
import Derived.Test.YteipeagdflcjjaaDoorArgs
namespace Go.Proofs.YteipeagdflcjjaaDoor.fnAttrNames
open Go.ChangeShapes Go.WideShapes Go.ChangeAt Go.RowKit
open Go.ChangeMaps (open_string shut_string)
set_option linter.unusedVariables false
set_option linter.unusedSimpArgs false

theorem own : ownKnob Tryd.prog.godebug = none := by kernel_rfl
theorem laidOut : laidOutB Tryd.prog = true := by kernel_rfl

theorem star : "*" ++ "errors.errorString" = "*errors.errorString" := by decide
theorem rowPtr (u : TypeId) (h : Tryd.prog.typeName? 3 u = some "*errors.errorString") : u = 178 :=
  typeName_ptr_named (nm := "errors.errorString") (by rw [star]; kernel_rfl) (by kernel_rfl) (by decide) u (by rw [star]; exact h)
theorem glob0 : Tryd.prog.globalNamed "pub-filiation/pub/gogit/gitattributes.ErrInvalidAttributeName" = some 0 := by kernel_rfl
theorem globType0 : (Tryd.prog.globals[0]?).map (·.type) = some 66 := by kernel_rfl
theorem errAt0 {W : World} (h : laidMet Tryd.prog Rows.fnAttrNamesRow.laid W) : ∃ (a : Addr) (msg : ByteArray), ErrAt W 0 a msg := by
  obtain ⟨a, s, hv, hc, ht, hz⟩ := laid_sentinel (laidMet.tail (h)) (g := 0) glob0 globType0 Tryd.underlying66 rowPtr Tryd.underlying178 Tryd.underlying208 rfl rfl Tryd.underlying9 (by kernel_rfl) (by kernel_rfl)
  have hvc : W.cell? ⟨0, 0, none⟩ = some (.iface 178 (.pointer (some a))) := by simpa using World.var?_cell glob0 hv 0
  refine ⟨a, s, hvc, hc, ?_, (cell_at hvc).1, (cell_at hc).1⟩
  intro e
  have : s.data.toList.length = 0 := by rw [Array.length_toList]; exact e
  rw [ht] at this
  simp at this
noncomputable def low : Nat := (World.holding Tryd.prog default ⟨#[], #[], []⟩).heap.size
noncomputable def laidWorld (os : Os) : World :=
  let w0 := World.holding Tryd.prog os ⟨#[.cells #[.string ⟨#[109, 97, 99, 114, 111, 32, 110, 111, 116, 32, 97, 108, 108, 111, 119, 101, 100]⟩] 208, .cells #[.string ⟨#[105, 110, 118, 97, 108, 105, 100, 32, 97, 116, 116, 114, 105, 98, 117, 116, 101, 32, 110, 97, 109, 101]⟩] 208], #[], []⟩
  { w0 with heap := (w0.heap.modify 1 fun
      | .cells _ t frozen => .cells #[.iface 178 (.pointer (some ⟨low, 0, none⟩))] t frozen
      | o => o).modify 0 fun
      | .cells _ t frozen => .cells #[.iface 178 (.pointer (some ⟨low + 1, 0, none⟩))] t frozen
      | o => o }
theorem laidWorld_met (os : Os) (args : Array Value) : laidMet Tryd.prog Rows.fnAttrNamesRow.laid ((laidWorld os).forCall (fun _ _ => 0) ⟨#[], args, []⟩).memory :=
  laidMet_of_run' 8 (by kernel_rfl) (by kernel_rfl)

set_option maxRecDepth 100000 in
theorem lifted (os : Os) (started : os.Started) (H : Type) (enc : TypeId × Value → H) :
    ReturnsInHanded {} Tryd.checked os 5 .any (fun w args => (Rows.fnAttrNamesSpec.pre enc Tryd.prog Tryd.f5 [] false w args ∧ laidMet Tryd.prog Rows.fnAttrNamesRow.laid w) ∧ sizedMet enc Tryd.prog Tryd.f5 (OpenSpec.ofChange Rows.fnAttrNamesSpec) false w args) (Rows.fnAttrNamesSpec.post enc Tryd.prog Tryd.f5 false true false false) := by
  refine returnsInHanded_of_change_and (C := Tryd.checked) (X := fun w _ => laidMet Tryd.prog Rows.fnAttrNamesRow.laid w) (fun _ _ _ hh h => h.of_heap hh) own started (by kernel_rfl) Tryd.func5
    (ChangeSpec.witness_at (enc := enc) (C := Tryd.checked) (os := os) (X := fun w _ => laidMet Tryd.prog Rows.fnAttrNamesRow.laid w) false (laidWorld os) #[.string ByteArray.empty, .string ByteArray.empty, .int .u8 0] 8 rfl (by kernel_rfl) (by kernel_rfl) (by kernel_rfl) (by kernel_rfl) (by kernel_rfl) (laidWorld_met os _)) ?_
  intro W base args ds gs before hval0 hW hcnd hsz0 hLaid _
  obtain ⟨ea0, em0, hE0⟩ := errAt0 hLaid
  have hval : ∀ (j : Nat) t v, Tryd.f5.params[j]? = some t → args[j]? = some v → Value.okWide Tryd.prog W .any base t v := hval0
  have hW' := hW
  obtain ⟨p, q, hA0, hV, rfl, hfz, hnd⟩ := hW
  have hA : DataW.TrodAll enc Tryd.prog W 0 (fun _ => true) true Tryd.f5.params.toList args.toList ds p := hA0
  rw [Tryd.params5] at hA hval
  obtain ⟨v0, vs0, d0, ds0, p0, q0, hargs, rfl, rfl, h0, r0⟩ := trodAll_cons hA
  obtain ⟨v1, vs1, d1, ds1, p1, q1, rfl, rfl, rfl, h1, r1⟩ := trodAll_cons r0
  obtain ⟨v2, vs2, d2, ds2, p2, q2, rfl, rfl, rfl, h2, r2⟩ := trodAll_cons r1
  obtain ⟨rfl, rfl, rfl⟩ := trodAll_nil r2
  obtain rfl : args = #[v0, v1, v2] := by cases args; simp_all
  obtain ⟨rfl, rfl⟩ := trodVars_none hV
  have k0 := h0
  have lt0 : ∀ x ∈ p0, x.block < W.heap.size := by obtain ⟨m, hm⟩ := k0; exact DataW.trod_lt m _ _ _ hm
  obtain ⟨s0, rfl, hd0, hp0, a0⟩ := open_string Tryd.underlying9 (hval 0 9 v0 rfl rfl) h0
  have k1 := h1
  have lt1 : ∀ x ∈ p1, x.block < W.heap.size := by obtain ⟨m, hm⟩ := k1; exact DataW.trod_lt m _ _ _ hm
  obtain ⟨s1, rfl, hd1, hp1, a1⟩ := open_string Tryd.underlying9 (hval 1 9 v1 rfl rfl) h1
  have k2 := h2
  have lt2 : ∀ x ∈ p2, x.block < W.heap.size := by obtain ⟨m, hm⟩ := k2; exact DataW.trod_lt m _ _ _ hm
  obtain ⟨z2, rfl, hd2, hp2, wf2⟩ := open_int Tryd.underlying5 (hval 2 5 v2 rfl rfl) h2
  obtain ⟨y2, rfl, a2⟩ := nat_u8 wf2
  clear hA0 hval0 hsz0
  refine (lawAtNames_any _ _ _ ea0 em0 W a0 a1 a2 hE0).mono fun e W' ⟨he, bel⟩ => ?_
  subst he
  exact ⟨_, rfl, _, _, _, [], _, [], hW', trodAll_mk1 (shut_bool Tryd.underlying4 _), (trodAll_cons_mk (Below.trod laidOut (by kernel_rfl) (of_decide_eq_true (by kernel_rfl)) k0 bel lt0) (trodAll_cons_mk (Below.trod laidOut (by kernel_rfl) (of_decide_eq_true (by kernel_rfl)) k1 bel lt1) (trodAll_cons_mk (Below.trod laidOut (by kernel_rfl) (of_decide_eq_true (by kernel_rfl)) k2 bel lt2) trodAll_mk0))), rfl, bel.frame _, fun h => by cases h⟩

theorem over : Rows.fnAttrNamesRow.holds Tryd.pinned (OpenSpec.ofChange Rows.fnAttrNamesSpec) :=
  OpenClaim.holds_of_wide 5 Tryd.f5 rfl rfl rfl rfl rfl rfl rfl ⟨rfl, rfl, rfl, rfl, rfl⟩ rfl rfl rfl rfl rfl (by kernel_rfl) Tryd.func5 (by kernel_rfl)
    (of_decide_eq_true (by kernel_rfl)) (by unfold Func.isWrapper; first | (rw [if_pos (by decide +kernel)]; kernel_rfl) | (rw [if_neg (by decide +kernel)]; exact ⟨rfl, rfl⟩))
    (fun os started H enc _ => lifted os started H enc)

/-- The card: the row, its listed variables tied to the program's text. -/
theorem card_holds : Rows.FnAttrNamesCardSaid :=
  Claim7.holds_tied_plain_at .later [] [.sentinel, .sentinel] true (true, "dfa620ad9d912d271707f616bb1d3c6c1b4b78e0da9edd13f718599093909a9a") true
    over (fun _ h => by cases h) (by kernel_rfl) (fun _ h => by cases h) fnAttrNames_row_tie rfl ⟨rfl, rfl⟩ (by kernel_rfl) rfl
    (fun f fn hf hfn => by
      obtain rfl : f = 5 := Option.some.inj ((show Tryd.prog.funcNamed "pub-filiation/laws.FnAttrNames" = some 5 by kernel_rfl).symm.trans hf) |>.symm
      obtain rfl : fn = Tryd.f5 := (Option.some.inj (Tryd.func5.symm.trans hfn)).symm
      exact ⟨by kernel_rfl, fun j t ht => by
        rw [Tryd.params5] at ht
        have hall : ∀ t ∈ ([9, 9, 5] : List TypeId), Tryd.prog.wantsStandIn t = false := by
          intro t ht
          simp only [List.mem_cons, List.not_mem_nil, or_false] at ht
          rcases ht with rfl | rfl | rfl <;> kernel_rfl
        refine hall t ?_
        have := Array.mem_of_getElem? ht
        simpa using this⟩)
    (by kernel_rfl)
end Go.Proofs.YteipeagdflcjjaaDoor.fnAttrNames
namespace Go.Proofs.YteipeagdflcjjaaDoor
theorem fnAttrNames_holds : Rows.FnAttrNamesCardSaid := fnAttrNames.card_holds
#print axioms fnAttrNames_holds
end Go.Proofs.YteipeagdflcjjaaDoor

