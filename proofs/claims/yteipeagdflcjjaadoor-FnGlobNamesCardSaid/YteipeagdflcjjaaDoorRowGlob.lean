/- FnGlobNames: at every list of paths and every pattern the law holds. -/
import Derived.Test.YteipeagdflcjjaaDoorRows
import Derived.Test.YteipeagdflcjjaaDoorCards
import Derived.Test.YteipeagdflcjjaaDoorTie
import Derived.Stop.LaidErr
import Derived.LaidLaws
import Derived.SevenTiedAt
import Derived.Test.YteipeagdflcjjaaDoorLawGlob
import Derived.Test.YteipeagdflcjjaaDoorArgs
import Derived.Test.YteipeagdflcjjaaDoorArgStrs
import Derived.Test.YteipeagdflcjjaaDoorArgStrss
namespace Go.Proofs.YteipeagdflcjjaaDoor.fnGlobNames
open Go.ChangeShapes Go.WideShapes Go.ChangeAt Go.RowKit
open Go.ChangeMaps (open_string shut_string)
set_option linter.unusedVariables false
set_option linter.unusedSimpArgs false

theorem own : ownKnob Tryd.prog.godebug = none := by kernel_rfl
theorem laidOut : laidOutB Tryd.prog = true := by kernel_rfl

noncomputable def low : Nat := (World.holding Tryd.prog default ⟨#[], #[], []⟩).heap.size
noncomputable def laidWorld (os : Os) : World :=
  let w0 := World.holding Tryd.prog os ⟨#[.cells #[.string ⟨#[115, 121, 110, 116, 97, 120, 32, 101, 114, 114, 111, 114, 32, 105, 110, 32, 112, 97, 116, 116, 101, 114, 110]⟩] 208], #[], []⟩
  { w0 with heap := ((w0.heap.modify 11 fun
      | .cells _ t frozen => .cells #[.int .u8 128, .int .u8 191, .int .u8 160, .int .u8 191, .int .u8 128, .int .u8 159, .int .u8 144, .int .u8 191, .int .u8 128, .int .u8 143, .int .u8 0, .int .u8 0, .int .u8 0, .int .u8 0, .int .u8 0, .int .u8 0, .int .u8 0, .int .u8 0, .int .u8 0, .int .u8 0, .int .u8 0, .int .u8 0, .int .u8 0, .int .u8 0, .int .u8 0, .int .u8 0, .int .u8 0, .int .u8 0, .int .u8 0, .int .u8 0, .int .u8 0, .int .u8 0] t frozen
      | o => o).modify 7 fun
      | .cells _ t frozen => .cells #[.iface 178 (.pointer (some ⟨low, 0, none⟩))] t frozen
      | o => o).modify 10 fun
      | .cells _ t frozen => .cells #[.int .u8 240, .int .u8 240, .int .u8 240, .int .u8 240, .int .u8 240, .int .u8 240, .int .u8 240, .int .u8 240, .int .u8 240, .int .u8 240, .int .u8 240, .int .u8 240, .int .u8 240, .int .u8 240, .int .u8 240, .int .u8 240, .int .u8 240, .int .u8 240, .int .u8 240, .int .u8 240, .int .u8 240, .int .u8 240, .int .u8 240, .int .u8 240, .int .u8 240, .int .u8 240, .int .u8 240, .int .u8 240, .int .u8 240, .int .u8 240, .int .u8 240, .int .u8 240, .int .u8 240, .int .u8 240, .int .u8 240, .int .u8 240, .int .u8 240, .int .u8 240, .int .u8 240, .int .u8 240, .int .u8 240, .int .u8 240, .int .u8 240, .int .u8 240, .int .u8 240, .int .u8 240, .int .u8 240, .int .u8 240, .int .u8 240, .int .u8 240, .int .u8 240, .int .u8 240, .int .u8 240, .int .u8 240, .int .u8 240, .int .u8 240, .int .u8 240, .int .u8 240, .int .u8 240, .int .u8 240, .int .u8 240, .int .u8 240, .int .u8 240, .int .u8 240, .int .u8 240, .int .u8 240, .int .u8 240, .int .u8 240, .int .u8 240, .int .u8 240, .int .u8 240, .int .u8 240, .int .u8 240, .int .u8 240, .int .u8 240, .int .u8 240, .int .u8 240, .int .u8 240, .int .u8 240, .int .u8 240, .int .u8 240, .int .u8 240, .int .u8 240, .int .u8 240, .int .u8 240, .int .u8 240, .int .u8 240, .int .u8 240, .int .u8 240, .int .u8 240, .int .u8 240, .int .u8 240, .int .u8 240, .int .u8 240, .int .u8 240, .int .u8 240, .int .u8 240, .int .u8 240, .int .u8 240, .int .u8 240, .int .u8 240, .int .u8 240, .int .u8 240, .int .u8 240, .int .u8 240, .int .u8 240, .int .u8 240, .int .u8 240, .int .u8 240, .int .u8 240, .int .u8 240, .int .u8 240, .int .u8 240, .int .u8 240, .int .u8 240, .int .u8 240, .int .u8 240, .int .u8 240, .int .u8 240, .int .u8 240, .int .u8 240, .int .u8 240, .int .u8 240, .int .u8 240, .int .u8 240, .int .u8 240, .int .u8 240, .int .u8 240, .int .u8 241, .int .u8 241, .int .u8 241, .int .u8 241, .int .u8 241, .int .u8 241, .int .u8 241, .int .u8 241, .int .u8 241, .int .u8 241, .int .u8 241, .int .u8 241, .int .u8 241, .int .u8 241, .int .u8 241, .int .u8 241, .int .u8 241, .int .u8 241, .int .u8 241, .int .u8 241, .int .u8 241, .int .u8 241, .int .u8 241, .int .u8 241, .int .u8 241, .int .u8 241, .int .u8 241, .int .u8 241, .int .u8 241, .int .u8 241, .int .u8 241, .int .u8 241, .int .u8 241, .int .u8 241, .int .u8 241, .int .u8 241, .int .u8 241, .int .u8 241, .int .u8 241, .int .u8 241, .int .u8 241, .int .u8 241, .int .u8 241, .int .u8 241, .int .u8 241, .int .u8 241, .int .u8 241, .int .u8 241, .int .u8 241, .int .u8 241, .int .u8 241, .int .u8 241, .int .u8 241, .int .u8 241, .int .u8 241, .int .u8 241, .int .u8 241, .int .u8 241, .int .u8 241, .int .u8 241, .int .u8 241, .int .u8 241, .int .u8 241, .int .u8 241, .int .u8 241, .int .u8 241, .int .u8 2, .int .u8 2, .int .u8 2, .int .u8 2, .int .u8 2, .int .u8 2, .int .u8 2, .int .u8 2, .int .u8 2, .int .u8 2, .int .u8 2, .int .u8 2, .int .u8 2, .int .u8 2, .int .u8 2, .int .u8 2, .int .u8 2, .int .u8 2, .int .u8 2, .int .u8 2, .int .u8 2, .int .u8 2, .int .u8 2, .int .u8 2, .int .u8 2, .int .u8 2, .int .u8 2, .int .u8 2, .int .u8 2, .int .u8 2, .int .u8 19, .int .u8 3, .int .u8 3, .int .u8 3, .int .u8 3, .int .u8 3, .int .u8 3, .int .u8 3, .int .u8 3, .int .u8 3, .int .u8 3, .int .u8 3, .int .u8 3, .int .u8 35, .int .u8 3, .int .u8 3, .int .u8 52, .int .u8 4, .int .u8 4, .int .u8 4, .int .u8 68, .int .u8 241, .int .u8 241, .int .u8 241, .int .u8 241, .int .u8 241, .int .u8 241, .int .u8 241, .int .u8 241, .int .u8 241, .int .u8 241, .int .u8 241] t frozen
      | o => o }
theorem laidWorld_met (os : Os) (args : Array Value) : laidMet Tryd.prog Rows.fnGlobNamesRow.laid ((laidWorld os).forCall (fun _ _ => 0) ⟨#[], args, []⟩).memory :=
  laidMet_of_run' 8 (by kernel_rfl) (by kernel_rfl)

set_option maxRecDepth 100000 in
theorem lifted (os : Os) (started : os.Started) (H : Type) (enc : TypeId × Value → H) :
    ReturnsInHanded {} Tryd.checked os 3 .any (fun w args => (Rows.fnGlobNamesSpec.pre enc Tryd.prog Tryd.f3 [] false w args ∧ laidMet Tryd.prog Rows.fnGlobNamesRow.laid w) ∧ sizedMet enc Tryd.prog Tryd.f3 (OpenSpec.ofChange Rows.fnGlobNamesSpec) false w args) (Rows.fnGlobNamesSpec.post enc Tryd.prog Tryd.f3 false true false false) := by
  refine returnsInHanded_of_change_and (C := Tryd.checked) (X := fun w _ => laidMet Tryd.prog Rows.fnGlobNamesRow.laid w) (fun _ _ _ hh h => h.of_heap hh) own started (by kernel_rfl) Tryd.func3
    (ChangeSpec.witness_at (enc := enc) (C := Tryd.checked) (os := os) (X := fun w _ => laidMet Tryd.prog Rows.fnGlobNamesRow.laid w) false (laidWorld os) #[.slice none 0 0, .slice none 0 0] 8 rfl (by kernel_rfl) (by kernel_rfl) (by kernel_rfl) (by kernel_rfl) (by kernel_rfl) (laidWorld_met os _)) ?_
  intro W base args ds gs before hval0 hW hcnd hsz0 hLaid _
  have hval : ∀ (j : Nat) t v, Tryd.f3.params[j]? = some t → args[j]? = some v → Value.okWide Tryd.prog W .any base t v := hval0
  have hW' := hW
  obtain ⟨p, q, hA0, hV, rfl, hfz, hnd⟩ := hW
  have hA : DataW.TrodAll enc Tryd.prog W 0 (fun _ => true) true Tryd.f3.params.toList args.toList ds p := hA0
  rw [Tryd.params3] at hA hval
  obtain ⟨v0, vs0, d0, ds0, p0, q0, hargs, rfl, rfl, h0, r0⟩ := trodAll_cons hA
  obtain ⟨v1, vs1, d1, ds1, p1, q1, rfl, rfl, rfl, h1, r1⟩ := trodAll_cons r0
  obtain ⟨rfl, rfl, rfl⟩ := trodAll_nil r1
  obtain rfl : args = #[v0, v1] := by cases args; simp_all
  obtain ⟨rfl, rfl⟩ := trodVars_none hV
  have k0 := h0
  have lt0 : ∀ x ∈ p0, x.block < W.heap.size := by obtain ⟨m, hm⟩ := k0; exact DataW.trod_lt m _ _ _ hm
  obtain ⟨A0, n0, c0, N0, F0, rfl, m0, a0⟩ := arg_strss (hval 0 22 v0 rfl rfl) h0
  have k1 := h1
  have lt1 : ∀ x ∈ p1, x.block < W.heap.size := by obtain ⟨m, hm⟩ := k1; exact DataW.trod_lt m _ _ _ hm
  obtain ⟨A1, n1, c1, f1, rfl, m1, l1, a1⟩ := arg_strs (hval 1 23 v1 rfl rfl) h1
  clear hA0 hval0 hsz0
  refine (Ix.lawGlob_any _ _ _ _ _ _ _ _ _ _ m0 m1 a0 a1).mono fun e W' ⟨he, bel⟩ => ?_
  subst he
  exact ⟨_, rfl, _, _, _, [], _, [], hW', trodAll_mk1 (shut_bool Tryd.underlying4 _), (trodAll_cons_mk (Below.trod laidOut (by kernel_rfl) (of_decide_eq_true (by kernel_rfl)) k0 bel lt0) (trodAll_cons_mk (Below.trod laidOut (by kernel_rfl) (of_decide_eq_true (by kernel_rfl)) k1 bel lt1) trodAll_mk0)), rfl, bel.frame _, fun h => by cases h⟩

theorem over : Rows.fnGlobNamesRow.holds Tryd.pinned (OpenSpec.ofChange Rows.fnGlobNamesSpec) :=
  OpenClaim.holds_of_wide 3 Tryd.f3 rfl rfl rfl rfl rfl rfl rfl ⟨rfl, rfl, rfl, rfl, rfl⟩ rfl rfl rfl rfl rfl (by kernel_rfl) Tryd.func3 (by kernel_rfl)
    (of_decide_eq_true (by kernel_rfl)) (by unfold Func.isWrapper; first | (rw [if_pos (by decide +kernel)]; kernel_rfl) | (rw [if_neg (by decide +kernel)]; exact ⟨rfl, rfl⟩))
    (fun os started H enc _ => lifted os started H enc)

/-- The card: the row, its listed variables tied to the program's text. -/
theorem card_holds : Rows.FnGlobNamesCardSaid :=
  Claim7.holds_tied_plain_at .later [] [.data, .sentinel, .pinned] true (true, "dfa620ad9d912d271707f616bb1d3c6c1b4b78e0da9edd13f718599093909a9a") true
    over (fun _ h => by cases h) (by kernel_rfl) (fun _ h => by cases h) fnGlobNames_row_tie rfl ⟨rfl, rfl⟩ (by kernel_rfl) rfl
    (fun f fn hf hfn => by
      obtain rfl : f = 3 := Option.some.inj ((show Tryd.prog.funcNamed "pub-filiation/laws.FnGlobNames" = some 3 by kernel_rfl).symm.trans hf) |>.symm
      obtain rfl : fn = Tryd.f3 := (Option.some.inj (Tryd.func3.symm.trans hfn)).symm
      exact ⟨by kernel_rfl, fun j t ht => by
        rw [Tryd.params3] at ht
        have hall : ∀ t ∈ ([22, 23] : List TypeId), Tryd.prog.wantsStandIn t = false := by
          intro t ht
          simp only [List.mem_cons, List.not_mem_nil, or_false] at ht
          rcases ht with rfl | rfl <;> kernel_rfl
        refine hall t ?_
        have := Array.mem_of_getElem? ht
        simpa using this⟩)
    (by kernel_rfl)
end Go.Proofs.YteipeagdflcjjaaDoor.fnGlobNames
namespace Go.Proofs.YteipeagdflcjjaaDoor
theorem fnGlobNames_holds : Rows.FnGlobNamesCardSaid := fnGlobNames.card_holds
#print axioms fnGlobNames_holds
end Go.Proofs.YteipeagdflcjjaaDoor

