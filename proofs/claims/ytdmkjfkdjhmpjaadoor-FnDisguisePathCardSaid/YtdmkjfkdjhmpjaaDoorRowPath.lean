/- FnDisguisePath, proved for every input: a path of which a part is .git or git~1, also as NTFS reads them, or .git as HFS+ reads it, is refused by the code, wherever it stands, and so are one point and two alone, a part with the byte 01 or 7F, and the empty path; paths of words are taken (a path of words; within the statement's own sizes; the variable that is read is tied to the text of the program). -/
import Derived.Test.YtdmkjfkdjhmpjaaDoorRows
import Derived.Test.YtdmkjfkdjhmpjaaDoorCards
import Derived.Test.YtdmkjfkdjhmpjaaDoorTie
import Derived.Stop.LaidErr
import Derived.LaidLaws
import Derived.SevenTiedAt
import Derived.Test.YtdmkjfkdjhmpjaaDoorLawPath
import Derived.Test.YtdmkjfkdjhmpjaaDoorArgs
import Derived.Test.YtdmkjfkdjhmpjaaDoorArgHead
import Derived.Test.YtdmkjfkdjhmpjaaDoorArgStrs
namespace Go.Proofs.YtdmkjfkdjhmpjaaDoor.fnDisguisePath
open Go.ChangeShapes Go.WideShapes Go.ChangeAt Go.RowKit
open Go.ChangeMaps (open_string shut_string)
set_option linter.unusedVariables false
set_option linter.unusedSimpArgs false

theorem own : ownKnob Tryd.prog.godebug = none := by kernel_rfl
theorem laidOut : laidOutB Tryd.prog = true := by kernel_rfl

theorem glob : Tryd.prog.globalNamed "pub-filiation/pub/gogit/pathutil.ErrInvalidPath" = some 0 := by kernel_rfl
theorem globType : (Tryd.prog.globals[0]?).map (·.type) = some 39 := by kernel_rfl
theorem star : "*" ++ "errors.errorString" = "*errors.errorString" := by decide
theorem rowPtr (u : TypeId) (h : Tryd.prog.typeName? 3 u = some "*errors.errorString") : u = 51 :=
  typeName_ptr_named (nm := "errors.errorString") (by rw [star]; kernel_rfl) (by kernel_rfl) (by decide) u (by rw [star]; exact h)
theorem errVar_of_laid {W : World} (h : laidMet Tryd.prog Rows.fnDisguisePathRow.laid W) : ∃ (a : Addr) (msg : ByteArray), ErrVar W a msg := by
  obtain ⟨a, s, hv, hc, ht, hz⟩ := laid_sentinel h (g := 0) glob globType Tryd.underlying39 rowPtr Tryd.underlying51 Tryd.underlying70 rfl rfl Tryd.underlying9 (by kernel_rfl) (by kernel_rfl)
  have hvc : W.cell? ⟨0, 0, none⟩ = some (.iface 51 (.pointer (some a))) := by simpa using World.var?_cell glob hv 0
  refine ⟨a, s, hvc, hc, ?_, (cell_at hvc).1, (cell_at hc).1⟩
  intro e
  have : s.data.toList.length = 0 := by rw [Array.length_toList]; exact e
  rw [ht] at this
  simp at this
noncomputable def low : Nat := (World.holding Tryd.prog default ⟨#[], #[], []⟩).heap.size
noncomputable def laidWorld (os : Os) : World :=
  let w0 := World.holding Tryd.prog os ⟨#[.cells #[.string ⟨#[105, 110, 118, 97, 108, 105, 100, 32, 112, 97, 116, 104]⟩] 70], #[], []⟩
  { w0 with heap := w0.heap.modify 0 fun
      | .cells _ t frozen => .cells #[.iface 51 (.pointer (some ⟨low, 0, none⟩))] t frozen
      | o => o }
theorem laidWorld_met (os : Os) (args : Array Value) : laidMet Tryd.prog Rows.fnDisguisePathRow.laid ((laidWorld os).forCall (fun _ _ => 0) ⟨#[], args, []⟩).memory :=
  laidMet_of_run (ps := [.cell 0 0, .cell low 0]) 8 (by kernel_rfl) (by kernel_rfl) (by kernel_rfl)

set_option maxRecDepth 100000 in
theorem lifted (os : Os) (started : os.Started) (H : Type) (enc : TypeId × Value → H) :
    ReturnsInHanded {} Tryd.checked os 3 .any (fun w args => (Rows.fnDisguisePathSpec.pre enc Tryd.prog Tryd.f3 [] false w args ∧ laidMet Tryd.prog Rows.fnDisguisePathRow.laid w) ∧ sizedMet enc Tryd.prog Tryd.f3 (OpenSpec.ofChange Rows.fnDisguisePathSpec) false w args) (Rows.fnDisguisePathSpec.post enc Tryd.prog Tryd.f3 false true false false) := by
  refine returnsInHanded_of_change_and (C := Tryd.checked) (X := fun w _ => laidMet Tryd.prog Rows.fnDisguisePathRow.laid w) (fun _ _ _ hh h => h.of_heap hh) own started (by kernel_rfl) Tryd.func3
    (ChangeSpec.witness_at (enc := enc) (C := Tryd.checked) (os := os) (X := fun w _ => laidMet Tryd.prog Rows.fnDisguisePathRow.laid w) false (laidWorld os) #[.slice none 0 0, .int .u8 0, .agg #[.int .u8 0, .slice none 0 0, .slice none 0 0], .slice none 0 0] 8 rfl (by kernel_rfl) (by kernel_rfl) (by kernel_rfl) (by kernel_rfl) (by kernel_rfl) (laidWorld_met os _)) ?_
  intro W base args ds gs before hval0 hW hcnd hsz0 hLaid _
  obtain ⟨ea, emsg, hEV⟩ := errVar_of_laid hLaid
  have hval : ∀ (j : Nat) t v, Tryd.f3.params[j]? = some t → args[j]? = some v → Value.okWide Tryd.prog W .any base t v := hval0
  have hW' := hW
  obtain ⟨p, q, hA0, hV, rfl, hfz, hnd⟩ := hW
  have hA : DataW.TrodAll enc Tryd.prog W 0 (fun _ => true) true Tryd.f3.params.toList args.toList ds p := hA0
  rw [Tryd.params3] at hA hval
  obtain ⟨v0, vs0, d0, ds0, p0, q0, hargs, rfl, rfl, h0, r0⟩ := trodAll_cons hA
  obtain ⟨v1, vs1, d1, ds1, p1, q1, rfl, rfl, rfl, h1, r1⟩ := trodAll_cons r0
  obtain ⟨v2, vs2, d2, ds2, p2, q2, rfl, rfl, rfl, h2, r2⟩ := trodAll_cons r1
  obtain ⟨v3, vs3, d3, ds3, p3, q3, rfl, rfl, rfl, h3, r3⟩ := trodAll_cons r2
  obtain ⟨rfl, rfl, rfl⟩ := trodAll_nil r3
  obtain rfl : args = #[v0, v1, v2, v3] := by cases args; simp_all
  obtain ⟨rfl, rfl⟩ := trodVars_none hV
  have k0 := h0
  have lt0 : ∀ x ∈ p0, x.block < W.heap.size := by obtain ⟨m, hm⟩ := k0; exact DataW.trod_lt m _ _ _ hm
  obtain ⟨A0, n0, c0, f0, rfl, m0, l0, a0⟩ := arg_strs (hval 0 22 v0 rfl rfl) h0
  have k1 := h1
  have lt1 : ∀ x ∈ p1, x.block < W.heap.size := by obtain ⟨m, hm⟩ := k1; exact DataW.trod_lt m _ _ _ hm
  obtain ⟨z1, rfl, hd1, hp1, wf1⟩ := open_int Tryd.underlying5 (hval 1 5 v1 rfl rfl) h1
  obtain ⟨y1, rfl, a1⟩ := nat_u8 wf1
  have k2 := h2
  have lt2 : ∀ x ∈ p2, x.block < W.heap.size := by obtain ⟨m, hm⟩ := k2; exact DataW.trod_lt m _ _ _ hm
  obtain ⟨wd2, A2, B2, n2, c2, m2, e2, f2, g2, rfl, a2⟩ := arg_head (hval 2 26 v2 rfl rfl) h2
  have k3 := h3
  have lt3 : ∀ x ∈ p3, x.block < W.heap.size := by obtain ⟨m, hm⟩ := k3; exact DataW.trod_lt m _ _ _ hm
  obtain ⟨A3, n3, c3, f3, rfl, _, a3⟩ := arg_bools (hval 3 23 v3 rfl rfl) h3
  clear hA0 hval0 hsz0
  refine (lawPath_any _ _ _ _ _ _ _ _ _ _ _ _ _ _ _ _ _ _ ea emsg W m0 a0 a1 a2 a3 hEV).mono fun e W' ⟨he, bel⟩ => ?_
  subst he
  exact ⟨_, rfl, _, _, _, [], _, [], hW', trodAll_mk1 (shut_bool Tryd.underlying4 _), (trodAll_cons_mk (Below.trod laidOut (by kernel_rfl) (of_decide_eq_true (by kernel_rfl)) k0 bel lt0) (trodAll_cons_mk (Below.trod laidOut (by kernel_rfl) (of_decide_eq_true (by kernel_rfl)) k1 bel lt1) (trodAll_cons_mk (Below.trod laidOut (by kernel_rfl) (of_decide_eq_true (by kernel_rfl)) k2 bel lt2) (trodAll_cons_mk (Below.trod laidOut (by kernel_rfl) (of_decide_eq_true (by kernel_rfl)) k3 bel lt3) trodAll_mk0)))), rfl, bel.frame _, fun h => by cases h⟩

theorem over : Rows.fnDisguisePathRow.holds Tryd.pinned (OpenSpec.ofChange Rows.fnDisguisePathSpec) :=
  OpenClaim.holds_of_wide 3 Tryd.f3 rfl rfl rfl rfl rfl rfl rfl ⟨rfl, rfl, rfl, rfl, rfl⟩ rfl rfl rfl rfl rfl (by kernel_rfl) Tryd.func3 (by kernel_rfl)
    (of_decide_eq_true (by kernel_rfl)) (by unfold Func.isWrapper; first | (rw [if_pos (by decide +kernel)]; kernel_rfl) | (rw [if_neg (by decide +kernel)]; exact ⟨rfl, rfl⟩))
    (fun os started H enc _ => lifted os started H enc)

/-- The card: the row, its listed variable tied to the program's text. -/
theorem card_holds : Rows.FnDisguisePathCardSaid :=
  Claim7.holds_tied_plain_at .later [] [.sentinel] true (true, "a06a30cd0b43bd5df8d572eb08fec9599c3ffd79e1fe3b13a81b8d9cfaa3c4de") false
    over (fun _ h => by cases h) (by kernel_rfl) (fun _ h => by cases h) fnDisguisePath_row_tie rfl ⟨rfl, rfl⟩ (by kernel_rfl) rfl
    (fun f fn hf hfn => by
      obtain rfl : f = 3 := Option.some.inj ((show Tryd.prog.funcNamed "pub-filiation/laws.FnDisguisePath" = some 3 by kernel_rfl).symm.trans hf) |>.symm
      obtain rfl : fn = Tryd.f3 := (Option.some.inj (Tryd.func3.symm.trans hfn)).symm
      exact ⟨by kernel_rfl, fun j t ht => by
        rw [Tryd.params3] at ht
        have hall : ∀ t ∈ ([22, 5, 26, 23] : List TypeId), Tryd.prog.wantsStandIn t = false := by
          intro t ht
          simp only [List.mem_cons, List.not_mem_nil, or_false] at ht
          rcases ht with rfl | rfl | rfl | rfl <;> kernel_rfl
        refine hall t ?_
        have := Array.mem_of_getElem? ht
        simpa using this⟩)
    (by kernel_rfl)
end Go.Proofs.YtdmkjfkdjhmpjaaDoor.fnDisguisePath
namespace Go.Proofs.YtdmkjfkdjhmpjaaDoor
theorem fnDisguisePath_holds : Rows.FnDisguisePathCardSaid := fnDisguisePath.card_holds
#print axioms fnDisguisePath_holds
end Go.Proofs.YtdmkjfkdjhmpjaaDoor

