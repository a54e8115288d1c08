/- FnOffsets, proved for every input: a number by sevens of bits, the high ones first, each group but the last one less by 1, is written and read, and a greater number has no shorter one (numbers from 0 to 2^56, at most 50 further bytes; of all others the law asks only that a delta is applied; the listed variables are tied to the text of the program). -/
import Derived.Test.YtgibmkgibkhemaaDoorRows
import Derived.Test.YtgibmkgibkhemaaDoorCards
import Derived.Test.YtgibmkgibkhemaaDoorTie
import Derived.Stop.LaidErr
import Derived.LaidLaws
import Derived.SevenTiedAt
import Derived.Test.YtgibmkgibkhemaaDoorLawOff
import Derived.Test.YtgibmkgibkhemaaDoorArgs
namespace Go.Proofs.YtgibmkgibkhemaaDoor.fnOffsets
open Go.ChangeShapes Go.WideShapes Go.ChangeAt Go.RowKit
open Go.ChangeMaps (open_string shut_string)
set_option linter.unusedVariables false
set_option linter.unusedSimpArgs false

theorem own : ownKnob Tryd.prog.godebug = none := by kernel_rfl
theorem laidOut : laidOutB Tryd.prog = true := by kernel_rfl

noncomputable def low : Nat := (World.holding Tryd.prog default ⟨#[], #[], []⟩).heap.size
noncomputable def laidWorld (os : Os) : World :=
  let w0 := World.holding Tryd.prog os ⟨#[.cells #[.string ⟨#[115, 104, 111, 114, 116, 32, 98, 117, 102, 102, 101, 114]⟩] 153, .cells #[.string ⟨#[69, 79, 70]⟩] 153, .cells #[.string ⟨#[117, 110, 101, 120, 112, 101, 99, 116, 101, 100, 32, 69, 79, 70]⟩] 153, .cells #[.string ⟨#[98, 121, 116, 101, 115, 46, 66, 117, 102, 102, 101, 114, 58, 32, 116, 111, 111, 32, 108, 97, 114, 103, 101]⟩] 153, .cells #[.string ⟨#[118, 97, 114, 105, 97, 98, 108, 101, 45, 119, 105, 100, 116, 104, 32, 105, 110, 116, 101, 103, 101, 114, 32, 111, 118, 101, 114, 102, 108, 111, 119]⟩] 153, .cells #[.string ⟨#[98, 105, 110, 97, 114, 121, 58, 32, 97, 32, 116, 121, 112, 101, 32, 116, 104, 97, 116, 32, 105, 115, 32, 110, 111, 116, 32, 97, 115, 107, 101, 100]⟩] 153, .cells #[.string ⟨#[105, 110, 118, 97, 108, 105, 100, 32, 100, 101, 108, 116, 97]⟩] 153, .cells #[.string ⟨#[119, 114, 111, 110, 103, 32, 100, 101, 108, 116, 97, 32, 99, 111, 109, 109, 97, 110, 100]⟩] 153, .cells #[.string ⟨#[118, 97, 114, 105, 97, 98, 108, 101, 45, 108, 101, 110, 103, 116, 104, 32, 105, 110, 116, 101, 103, 101, 114, 32, 111, 118, 101, 114, 102, 108, 111, 119]⟩] 153], #[], []⟩
  { w0 with heap := ((((((((w0.heap.modify 6 fun
      | .cells _ t frozen => .cells #[.iface 135 (.pointer (some ⟨low, 0, none⟩))] t frozen
      | o => o).modify 7 fun
      | .cells _ t frozen => .cells #[.iface 135 (.pointer (some ⟨low + 1, 0, none⟩))] t frozen
      | o => o).modify 8 fun
      | .cells _ t frozen => .cells #[.iface 135 (.pointer (some ⟨low + 2, 0, none⟩))] t frozen
      | o => o).modify 5 fun
      | .cells _ t frozen => .cells #[.iface 135 (.pointer (some ⟨low + 3, 0, none⟩))] t frozen
      | o => o).modify 0 fun
      | .cells _ t frozen => .cells #[.iface 135 (.pointer (some ⟨low + 4, 0, none⟩))] t frozen
      | o => o).modify 4 fun
      | .cells _ t frozen => .cells #[.iface 135 (.pointer (some ⟨low + 5, 0, none⟩))] t frozen
      | o => o).modify 1 fun
      | .cells _ t frozen => .cells #[.iface 135 (.pointer (some ⟨low + 6, 0, none⟩))] t frozen
      | o => o).modify 3 fun
      | .cells _ t frozen => .cells #[.iface 135 (.pointer (some ⟨low + 7, 0, none⟩))] t frozen
      | o => o).modify 2 fun
      | .cells _ t frozen => .cells #[.iface 135 (.pointer (some ⟨low + 8, 0, none⟩))] t frozen
      | o => o }
theorem laidWorld_met (os : Os) (args : Array Value) : laidMet Tryd.prog Rows.fnOffsetsRow.laid ((laidWorld os).forCall (fun _ _ => 0) ⟨#[], args, []⟩).memory :=
  laidMet_of_run' 8 (by kernel_rfl) (by kernel_rfl)

set_option maxRecDepth 100000 in
theorem lifted (os : Os) (started : os.Started) (H : Type) (enc : TypeId × Value → H) :
    ReturnsInHanded {} Tryd.checked os 4 .any (fun w args => (Rows.fnOffsetsSpec.pre enc Tryd.prog Tryd.f4 [] false w args ∧ laidMet Tryd.prog Rows.fnOffsetsRow.laid w) ∧ sizedMet enc Tryd.prog Tryd.f4 (OpenSpec.ofChange Rows.fnOffsetsSpec) false w args) (Rows.fnOffsetsSpec.post enc Tryd.prog Tryd.f4 false true false false) := by
  refine returnsInHanded_of_change_and (C := Tryd.checked) (X := fun w _ => laidMet Tryd.prog Rows.fnOffsetsRow.laid w) (fun _ _ _ hh h => h.of_heap hh) own started (by kernel_rfl) Tryd.func4
    (ChangeSpec.witness_at (enc := enc) (C := Tryd.checked) (os := os) (X := fun w _ => laidMet Tryd.prog Rows.fnOffsetsRow.laid w) false (laidWorld os) #[.int .i64 0, .int .i64 0, .string ByteArray.empty] 8 rfl (by kernel_rfl) (by kernel_rfl) (by kernel_rfl) (by kernel_rfl) (by kernel_rfl) (laidWorld_met os _)) ?_
  intro W base args ds gs before hval0 hW hcnd hsz0 hLaid _
  have hval : ∀ (j : Nat) t v, Tryd.f4.params[j]? = some t → args[j]? = some v → Value.okWide Tryd.prog W .any base t v := hval0
  have hW' := hW
  obtain ⟨p, q, hA0, hV, rfl, hfz, hnd⟩ := hW
  have hA : DataW.TrodAll enc Tryd.prog W 0 (fun _ => true) true Tryd.f4.params.toList args.toList ds p := hA0
  rw [Tryd.params4] at hA hval
  obtain ⟨v0, vs0, d0, ds0, p0, q0, hargs, rfl, rfl, h0, r0⟩ := trodAll_cons hA
  obtain ⟨v1, vs1, d1, ds1, p1, q1, rfl, rfl, rfl, h1, r1⟩ := trodAll_cons r0
  obtain ⟨v2, vs2, d2, ds2, p2, q2, rfl, rfl, rfl, h2, r2⟩ := trodAll_cons r1
  obtain ⟨rfl, rfl, rfl⟩ := trodAll_nil r2
  obtain rfl : args = #[v0, v1, v2] := by cases args; simp_all
  obtain ⟨rfl, rfl⟩ := trodVars_none hV
  have k0 := h0
  have lt0 : ∀ x ∈ p0, x.block < W.heap.size := by obtain ⟨m, hm⟩ := k0; exact DataW.trod_lt m _ _ _ hm
  obtain ⟨z0, rfl, hd0, hp0, wf0⟩ := open_int Tryd.underlying2 (hval 0 2 v0 rfl rfl) h0
  have a0 := wf_i64 wf0
  have k1 := h1
  have lt1 : ∀ x ∈ p1, x.block < W.heap.size := by obtain ⟨m, hm⟩ := k1; exact DataW.trod_lt m _ _ _ hm
  obtain ⟨z1, rfl, hd1, hp1, wf1⟩ := open_int Tryd.underlying2 (hval 1 2 v1 rfl rfl) h1
  have a1 := wf_i64 wf1
  have k2 := h2
  have lt2 : ∀ x ∈ p2, x.block < W.heap.size := by obtain ⟨m, hm⟩ := k2; exact DataW.trod_lt m _ _ _ hm
  obtain ⟨s2, rfl, hd2, hp2, a2⟩ := open_string Tryd.underlying9 (hval 2 9 v2 rfl rfl) h2
  clear hA0 hval0 hsz0
  refine (law_offsets _ _ _ W a2).mono fun e W' ⟨he, bel⟩ => ?_
  subst he
  exact ⟨_, rfl, _, _, _, [], _, [], hW', trodAll_mk1 (shut_bool Tryd.underlying4 _), (trodAll_cons_mk (Below.trod laidOut (by kernel_rfl) (of_decide_eq_true (by kernel_rfl)) k0 bel lt0) (trodAll_cons_mk (Below.trod laidOut (by kernel_rfl) (of_decide_eq_true (by kernel_rfl)) k1 bel lt1) (trodAll_cons_mk (Below.trod laidOut (by kernel_rfl) (of_decide_eq_true (by kernel_rfl)) k2 bel lt2) trodAll_mk0))), rfl, bel.frame _, fun h => by cases h⟩

theorem over : Rows.fnOffsetsRow.holds Tryd.pinned (OpenSpec.ofChange Rows.fnOffsetsSpec) :=
  OpenClaim.holds_of_wide 4 Tryd.f4 rfl rfl rfl rfl rfl rfl rfl ⟨rfl, rfl, rfl, rfl, rfl⟩ rfl rfl rfl rfl rfl (by kernel_rfl) Tryd.func4 (by kernel_rfl)
    (of_decide_eq_true (by kernel_rfl)) (by unfold Func.isWrapper; first | (rw [if_pos (by decide +kernel)]; kernel_rfl) | (rw [if_neg (by decide +kernel)]; exact ⟨rfl, rfl⟩))
    (fun os started H enc _ => lifted os started H enc)

/-- The card: the row, its listed variables tied to the program's text. -/
theorem card_holds : Rows.FnOffsetsCardSaid :=
  Claim7.holds_tied_plain_at .later [] [.sentinel, .sentinel, .sentinel, .sentinel, .sentinel, .sentinel, .sentinel, .sentinel, .sentinel] true (true, "205759b219820320ae6e3ca0e90d04ebf30b889b74b5134f3ef1f859dc5c305d") true
    over (fun _ h => by cases h) (by kernel_rfl) (fun _ h => by cases h) fnOffsets_row_tie rfl ⟨rfl, rfl⟩ (by kernel_rfl) rfl
    (fun f fn hf hfn => by
      obtain rfl : f = 4 := Option.some.inj ((show Tryd.prog.funcNamed "pub-filiation/laws.FnOffsets" = some 4 by kernel_rfl).symm.trans hf) |>.symm
      obtain rfl : fn = Tryd.f4 := (Option.some.inj (Tryd.func4.symm.trans hfn)).symm
      exact ⟨by kernel_rfl, fun j t ht => by
        rw [Tryd.params4] at ht
        have hall : ∀ t ∈ ([2, 2, 9] : List TypeId), Tryd.prog.wantsStandIn t = false := by
          intro t ht
          simp only [List.mem_cons, List.not_mem_nil, or_false] at ht
          rcases ht with rfl | rfl | rfl <;> kernel_rfl
        refine hall t ?_
        have := Array.mem_of_getElem? ht
        simpa using this⟩)
    (by kernel_rfl)
end Go.Proofs.YtgibmkgibkhemaaDoor.fnOffsets
namespace Go.Proofs.YtgibmkgibkhemaaDoor
theorem fnOffsets_holds : Rows.FnOffsetsCardSaid := fnOffsets.card_holds
#print axioms fnOffsets_holds
end Go.Proofs.YtgibmkgibkhemaaDoor

