/- crypto/sha1.New; a number and a kind as text. -/
import Derived.Test.YtnhegjjegamdfaaFmtShF
namespace Go.Proofs.YtnhegjjegamdfaaFmt
open Go.RowKit
set_option linter.unusedSimpArgs false
set_option linter.unusedVariables false

def resetL (L : List Value) : List Value := ((((((L.set 0 (.int .u32 1732584193)).set 1 (.int .u32 4023233417)).set 2 (.int .u32 2562383102)).set 3 (.int .u32 271733878)).set 4 (.int .u32 3285377520)).set 69 (.int .i64 0)).set 70 (.int .u64 0)
def ResetPost (d : Nat) (T : TypeId) (L : List Value) (w : World) (e : Ending) (w' : World) : Prop :=
  e = .returned (.tuple #[]) ∧ w'.heap[d]? = some (.cells (resetL L).toArray T (0, 0)) ∧ w.grownBy w' (some d)
set_option maxRecDepth 100000 in
set_option maxHeartbeats 1000000 in
theorem Reset_any (d : Nat) (T : TypeId) (L : List Value) (w : World) (hL : w.heap[d]? = some (.cells L.toArray T (0, 0))) (hlen : L.length = 71) :
    Calls Tryf.prog 57 #[.pointer (some ⟨d, 0, none⟩)] w (ResetPost d T L w) := by
  obtain ⟨v0, c0⟩ := row_ex (i := 0) hL (by omega)
  obtain ⟨v1, c1⟩ := row_ex (i := 1) hL (by omega)
  obtain ⟨v2, c2⟩ := row_ex (i := 2) hL (by omega)
  obtain ⟨v3, c3⟩ := row_ex (i := 3) hL (by omega)
  obtain ⟨v4, c4⟩ := row_ex (i := 4) hL (by omega)
  obtain ⟨v5, c5⟩ := row_ex (i := 69) hL (by omega)
  obtain ⟨v6, c6⟩ := row_ex (i := 70) hL (by omega)
  have f0 := Lib.frozen_of_heap hL 0
  have f1 := Lib.frozen_of_heap hL 1
  have f2 := Lib.frozen_of_heap hL 2
  have f3 := Lib.frozen_of_heap hL 3
  have f4 := Lib.frozen_of_heap hL 4
  have f5 := Lib.frozen_of_heap hL 69
  have f6 := Lib.frozen_of_heap hL 70
  have HE := Lib.hid (row_set2 (i := 70) (row_set2 (i := 69) (row_set2 (i := 4) (row_set2 (i := 3) (row_set2 (i := 2) (row_set2 (i := 1) (row_set2 (i := 0) hL (.int .u32 1732584193)) (.int .u32 4023233417)) (.int .u32 2562383102)) (.int .u32 271733878)) (.int .u32 3285377520)) (.int .i64 0)) (.int .u64 0))
  have HG := Lib.hid (grownBy_set2 (grownBy_set2 (grownBy_set2 (grownBy_set2 (grownBy_set2 (grownBy_set2 (grownBy_set2 (grownBy_refl w d) 0 (.int .u32 1732584193)) 1 (.int .u32 4023233417)) 2 (.int .u32 2562383102)) 3 (.int .u32 271733878)) 4 (.int .u32 3285377520)) 69 (.int .i64 0)) 70 (.int .u64 0))
  clear hL hlen
  go_enter Tryf.func57, Tryf.ntmps57
  go_wp2
  go_end0
  exact ⟨rfl, HE.out, HG.out⟩

def NewPost (w : World) (e : Ending) (w' : World) : Prop :=
  e = .returned (.pointer (some ⟨w.heap.size, 0, none⟩)) ∧ w'.heap[w.heap.size]? = some (.cells (dOf []).toArray 81 (0, 0)) ∧ Below w.heap.size w w'
theorem zero64 : Tryf.zeroCells81 = Tryf.zeroCells81.toList.toArray := by simp
set_option maxHeartbeats 1000000 in
theorem New_any (w : World) : Calls Tryf.prog 50 #[] w (NewPost w) := by
  go_enter Tryf.func50, Tryf.ntmps50
  go_wp2_with fail
  generalize hW : w.alloc _ = W1
  have HL1 : Hid (W1.heap[w.heap.size]? = some (.cells Tryf.zeroCells81.toList.toArray 81 (0, 0))) := Lib.hid (by subst hW; rw [Array.toArray_toList]; exact heap_new _ _)
  have HB1 : Hid (Below w.heap.size w W1) := Lib.hid (by subst hW; exact (Below.refl _ _).alloc (Nat.le_refl _) _)
  clear hW
  with_reducible refine (Reset_any w.heap.size 81 _ W1 HL1.out (by kernel_rfl)).mono ?_
  rintro e W2 ⟨rfl, h1, h2⟩
  have hr : resetL Tryf.zeroCells81.toList = dOf [] := by kernel_rfl
  rw [hr] at h1
  have HL2 := Lib.hid h1
  have HB2 : Hid (Below w.heap.size w W2) := Lib.hid (below_of HB1.out h2 (Nat.le_refl _))
  clear h1 h2 hr
  go_wp2
  go_ret
  exact ⟨rfl, HL2.out, HB2.out⟩

set_option maxHeartbeats 400000 in
theorem kind_any (w : World) : Calls Tryf.prog 58 #[.int .i8 3] w fun e w' => e = .returned (.string ⟨#[98, 108, 111, 98]⟩) ∧ w' = w := by
  go_enter Tryf.func58, Tryf.ntmps58
  go_wp2
  go_ret
  exact ⟨rfl, rfl⟩
set_option maxHeartbeats 400000 in
theorem small_any (w : World) : Calls Tryf.prog 62 #[.int .i64 6] w fun e w' => e = .returned (.string ⟨#[54]⟩) ∧ w' = w := by
  go_enter Tryf.func62, Tryf.ntmps62
  go_wp2
  go_ret
  exact ⟨rfl, rfl⟩
set_option maxHeartbeats 400000 in
theorem formatI_any (w : World) : Calls Tryf.prog 59 #[.int .i64 6, .int .i64 10] w fun e w' => e = .returned (.string ⟨#[54]⟩) ∧ w' = w := by
  go_enter Tryf.func59, Tryf.ntmps59
  go_wp2_with fail
  with_reducible refine (small_any _).mono ?_
  rintro e w' ⟨rfl, rfl⟩
  go_wp2
  go_ret
  exact ⟨rfl, rfl⟩
set_option maxHeartbeats 400000 in
theorem format_any (w : World) : Calls Tryf.prog 52 #[.int .i64 6, .int .i64 10] w fun e w' => e = .returned (.string ⟨#[54]⟩) ∧ w' = w := by
  go_enter Tryf.func52, Tryf.ntmps52
  go_wp2_with fail
  with_reducible refine (formatI_any _).mono ?_
  rintro e w' ⟨rfl, rfl⟩
  go_wp2
  go_ret
  exact ⟨rfl, rfl⟩
end Go.Proofs.YtnhegjjegamdfaaFmt
