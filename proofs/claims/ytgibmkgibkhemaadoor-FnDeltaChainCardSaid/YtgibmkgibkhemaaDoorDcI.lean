/- zzT, len8tab, hashBlock. -/
import Derived.Test.YtgibmkgibkhemaaDoorDcH
import Derived.Test.YtgibmkgibkhemaaDoorDcR
import Derived.Deep.DeepCutAuto
import Derived.Deep.QuietTactic
import Derived.BigQuiet
namespace Go.Proofs.YtgibmkgibkhemaaDoor
open Go.RowKit
set_option linter.unusedSimpArgs false
set_option linter.unusedVariables false

theorem tKind : Tryd.prog.underlying 130 = some (match Tryd.prog.underlying 130 with | some d => d | _ => .struct #[]) := by kernel_rfl
theorem tSize : (Tryd.prog.info? 130).map (·.size) = some 256 := by kernel_rfl
theorem l8Size : (Tryd.prog.info? 133).map (·.size) = some 256 := by kernel_rfl
theorem l8Kind : Tryd.prog.underlying 133 = some (match Tryd.prog.underlying 133 with | some d => d | _ => .struct #[]) := by kernel_rfl
theorem below_setRow2 {w w1 : World} {b : Nat} (h : Below w.heap.size w w1) (hb : w.heap.size ≤ b) (C : Array Value) : Below w.heap.size w (w1.setRow b C) :=
  ⟨h.os, h.tape, h.output, by simpa [World.setRow] using h.size, fun k hk => by
    rw [setRow_other _ _ _ _ (by omega)]
    exact h.block k hk⟩
def TabPost (T : Array Value) (w : World) (e : Ending) (w' : World) : Prop := e = .returned (.agg T) ∧ Below w.heap.size w w'
set_option maxRecDepth 100000 in
set_option maxHeartbeats 4000000 in
theorem zzT_any (w : World) : Calls Tryd.prog 61 #[] w (TabPost tArr w) := by
  go_enter Tryd.func61, Tryd.ntmps61
  go_upto_region 1 with (fail)
  generalize hW : w.alloc _ = W1
  have HR1 : Hid (∃ C : Array Value, C.size = 256 ∧ W1.heap[w.heap.size]? = some (.cells C 130 (0, 0))) := Lib.hid (by subst hW; exact ⟨_, by kernel_rfl, heap_new _ _⟩)
  have HB1 : Hid (Below w.heap.size w W1) := Lib.hid (by subst hW; exact (Below.refl _ _).alloc (Nat.le_refl _) _)
  clear hW
  obtain ⟨C, hC, hrow⟩ := HR1.out
  have HROW := Lib.hid hrow
  clear hrow
  go_wp2_with (first | (refine wpList_build rfl _ _ rfl (by kernel_rfl) ?_) | (refine wpList_store_row rfl 130 (.tmp 0) (.tmp 1) rfl w.heap.size _ rfl rfl 130 C HROW.out (by kernel_rfl) (hC.trans (by kernel_rfl)) (by kernel_rfl) ?_))
  refine bodyPost_ret (results_cell_row rfl _ _ w.heap.size 130 _ (0, 0) _ rfl (setRow_heap _ _ _ _ _ _ HROW.out) tKind rfl (by kernel_rfl)) rfl ?_
  exact ⟨by kernel_rfl, below_setRow2 HB1.out (Nat.le_refl _) _⟩
set_option maxRecDepth 100000 in
set_option maxHeartbeats 4000000 in
theorem len8tab_any (w : World) : Calls Tryd.prog 64 #[] w (TabPost l8Arr w) := by
  go_enter Tryd.func64, Tryd.ntmps64
  go_upto_region 1 with (fail)
  generalize hW : w.alloc _ = W1
  have HR1 : Hid (∃ C : Array Value, C.size = 256 ∧ W1.heap[w.heap.size]? = some (.cells C 133 (0, 0))) := Lib.hid (by subst hW; exact ⟨_, by kernel_rfl, heap_new _ _⟩)
  have HB1 : Hid (Below w.heap.size w W1) := Lib.hid (by subst hW; exact (Below.refl _ _).alloc (Nat.le_refl _) _)
  clear hW
  obtain ⟨C, hC, hrow⟩ := HR1.out
  have HROW := Lib.hid hrow
  clear hrow
  go_wp2_with (first | (refine wpList_build rfl _ _ rfl (by kernel_rfl) ?_) | (refine wpList_store_row rfl 133 (.tmp 0) (.tmp 1) rfl w.heap.size _ rfl rfl 133 C HROW.out (by kernel_rfl) (hC.trans (by kernel_rfl)) (by kernel_rfl) ?_))
  refine bodyPost_ret (results_cell_row rfl _ _ w.heap.size 133 _ (0, 0) _ rfl (setRow_heap _ _ _ _ _ _ HROW.out) l8Kind rfl (by kernel_rfl)) rfl ?_
  exact ⟨by kernel_rfl, below_setRow2 HB1.out (Nat.le_refl _) _⟩
end Go.Proofs.YtgibmkgibkhemaaDoor
