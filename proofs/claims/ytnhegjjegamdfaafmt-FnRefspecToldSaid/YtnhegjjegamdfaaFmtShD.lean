/- crypto/sha1: bePutUint64, bePutUint32. -/
import Derived.Test.YtnhegjjegamdfaaFmtShW
import Derived.LoopN
namespace Go.Proofs.YtnhegjjegamdfaaFmt
open Go.RowKit
set_option linter.unusedSimpArgs false
set_option linter.unusedVariables false

def put4 (L : List Value) (o : Nat) (v : Int) : List Value := (((L.set o (.int .u8 (v / 16777216 % 256))).set (o + 1) (.int .u8 (v / 65536 % 256))).set (o + 2) (.int .u8 (v / 256 % 256))).set (o + 3) (.int .u8 (v % 256))
def Put4Post (g o : Nat) (T : TypeId) (L : List Value) (v : Int) (w : World) (e : Ending) (w' : World) : Prop :=
  e = .returned (.tuple #[]) ∧ w'.heap[g]? = some (.cells (put4 L o v).toArray T (0, 0)) ∧ w.grownBy w' (some g)
set_option maxHeartbeats 1000000 in
theorem put32_any (g o n c : Nat) (T : TypeId) (L : List Value) (v : Int) (w : World) (hL : w.heap[g]? = some (.cells L.toArray T (0, 0))) (hlen : o + 4 ≤ L.length) (hn : 4 ≤ n) (hnm : n ≤ 1000) :
    Calls Tryf.prog 68 #[.slice (some ⟨g, o, none⟩) n c, .int .u32 v] w (Put4Post g o T L v w) := by
  obtain ⟨v0, c0⟩ := row_ex (i := o) hL (by omega)
  obtain ⟨v1, c1⟩ := row_ex (i := o + 1) hL (by omega)
  obtain ⟨v2, c2⟩ := row_ex (i := o + 2) hL (by omega)
  obtain ⟨v3, c3⟩ := row_ex (i := o + 3) hL (by omega)
  have f0 := Lib.frozen_of_heap hL o
  have f1 := Lib.frozen_of_heap hL (o + 1)
  have f2 := Lib.frozen_of_heap hL (o + 2)
  have f3 := Lib.frozen_of_heap hL (o + 3)
  have HE := Lib.hid (row_set2 (i := o + 3) (row_set2 (i := o + 2) (row_set2 (i := o + 1) (row_set2 (i := o) hL (.int .u8 (v / 16777216 % 256))) (.int .u8 (v / 65536 % 256))) (.int .u8 (v / 256 % 256))) (.int .u8 (v % 256)))
  have HG := Lib.hid (grownBy_set2 (grownBy_set2 (grownBy_set2 (grownBy_set2 (grownBy_refl w g) o (.int .u8 (v / 16777216 % 256))) (o + 1) (.int .u8 (v / 65536 % 256))) (o + 2) (.int .u8 (v / 256 % 256))) (o + 3) (.int .u8 (v % 256)))
  have i3 : (3 : Int) < n := by omega
  have i2 : (2 : Int) < n := by omega
  have i1 : (1 : Int) < n := by omega
  have i0 : (0 : Int) < n := by omega
  clear hL hlen
  go_enter Tryf.func68, Tryf.ntmps68
  go_wp2
  go_end0
  exact ⟨rfl, HE.out, HG.out⟩

def put8 (L : List Value) (o : Nat) : List Value := ((((((((L.set (o) (.int .u8 0)).set (o + 1) (.int .u8 0)).set (o + 2) (.int .u8 0)).set (o + 3) (.int .u8 0)).set (o + 4) (.int .u8 0)).set (o + 5) (.int .u8 0)).set (o + 6) (.int .u8 0)).set (o + 7) (.int .u8 104))
def Put8Post (g o : Nat) (T : TypeId) (L : List Value) (w : World) (e : Ending) (w' : World) : Prop :=
  e = .returned (.tuple #[]) ∧ w'.heap[g]? = some (.cells (put8 L o).toArray T (0, 0)) ∧ w.grownBy w' (some g)
set_option maxRecDepth 100000 in
set_option maxHeartbeats 2000000 in
theorem put64_any (g o n c : Nat) (T : TypeId) (L : List Value) (w : World) (hL : w.heap[g]? = some (.cells L.toArray T (0, 0))) (hlen : o + 8 ≤ L.length) (hn : 8 ≤ n) (hnm : n ≤ 1000) :
    Calls Tryf.prog 67 #[.slice (some ⟨g, o, none⟩) n c, .int .u64 104] w (Put8Post g o T L w) := by
  obtain ⟨v0, c0⟩ := row_ex (i := o) hL (by omega)
  obtain ⟨v1, c1⟩ := row_ex (i := o + 1) hL (by omega)
  obtain ⟨v2, c2⟩ := row_ex (i := o + 2) hL (by omega)
  obtain ⟨v3, c3⟩ := row_ex (i := o + 3) hL (by omega)
  obtain ⟨v4, c4⟩ := row_ex (i := o + 4) hL (by omega)
  obtain ⟨v5, c5⟩ := row_ex (i := o + 5) hL (by omega)
  obtain ⟨v6, c6⟩ := row_ex (i := o + 6) hL (by omega)
  obtain ⟨v7, c7⟩ := row_ex (i := o + 7) hL (by omega)
  have f0 := Lib.frozen_of_heap hL (o)
  have f1 := Lib.frozen_of_heap hL (o + 1)
  have f2 := Lib.frozen_of_heap hL (o + 2)
  have f3 := Lib.frozen_of_heap hL (o + 3)
  have f4 := Lib.frozen_of_heap hL (o + 4)
  have f5 := Lib.frozen_of_heap hL (o + 5)
  have f6 := Lib.frozen_of_heap hL (o + 6)
  have f7 := Lib.frozen_of_heap hL (o + 7)
  have HE := Lib.hid (row_set2 (i := o + 7) (row_set2 (i := o + 6) (row_set2 (i := o + 5) (row_set2 (i := o + 4) (row_set2 (i := o + 3) (row_set2 (i := o + 2) (row_set2 (i := o + 1) (row_set2 (i := o) (hL) (.int .u8 0)) (.int .u8 0)) (.int .u8 0)) (.int .u8 0)) (.int .u8 0)) (.int .u8 0)) (.int .u8 0)) (.int .u8 104))
  have HG := Lib.hid (grownBy_set2 (grownBy_set2 (grownBy_set2 (grownBy_set2 (grownBy_set2 (grownBy_set2 (grownBy_set2 (grownBy_set2 (grownBy_refl w g) (o) (.int .u8 0)) (o + 1) (.int .u8 0)) (o + 2) (.int .u8 0)) (o + 3) (.int .u8 0)) (o + 4) (.int .u8 0)) (o + 5) (.int .u8 0)) (o + 6) (.int .u8 0)) (o + 7) (.int .u8 104))
  have i0 : (0 : Int) < n := by omega
  have i1 : (1 : Int) < n := by omega
  have i2 : (2 : Int) < n := by omega
  have i3 : (3 : Int) < n := by omega
  have i4 : (4 : Int) < n := by omega
  have i5 : (5 : Int) < n := by omega
  have i6 : (6 : Int) < n := by omega
  have i7 : (7 : Int) < n := by omega
  clear hL hlen
  go_enter Tryf.func67, Tryf.ntmps67
  go_wp2
  refine wp_loop_rounds 9 ?_
  rw [rounds_succ]
  go_wp2
  rw [rounds_succ]
  go_wp2
  rw [rounds_succ]
  go_wp2
  rw [rounds_succ]
  go_wp2
  rw [rounds_succ]
  go_wp2
  rw [rounds_succ]
  go_wp2
  rw [rounds_succ]
  go_wp2
  rw [rounds_succ]
  go_wp2
  rw [rounds_succ]
  go_wp2
  go_end0
  exact ⟨rfl, HE.out, HG.out⟩
end Go.Proofs.YtnhegjjegamdfaaFmt
