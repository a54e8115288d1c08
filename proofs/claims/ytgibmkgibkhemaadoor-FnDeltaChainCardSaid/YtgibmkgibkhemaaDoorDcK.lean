/- leadingZeros, tableSize of a small number of blocks. -/
import Derived.Test.YtgibmkgibkhemaaDoorDcJ
namespace Go.Proofs.YtgibmkgibkhemaaDoor
open Go.RowKit
set_option linter.unusedSimpArgs false
set_option linter.unusedVariables false

theorem l8_index (x : Nat) (h : x < 256) (w : World) : (Instr.index 133 (.agg l8Arr) (.int .u32 (x : Int))).run Tryd.prog w = .ok (.int .u8 (l8L.getD x 0 : Nat)) w := by
  have hu : Tryd.prog.underlying 133 = some (.array 256 5) := by kernel_rfl
  have hu2 : Tryd.prog.underlying 5 = some (.int .u8) := by kernel_rfl
  have hsz : (sizeOf 5).run Tryd.prog w = .ok 1 w := by kernel_rfl
  have hc := l8Arr_at x h
  have hi : (0 : Int) ≤ x ∧ (x : Int) < (256 : Nat) := by omega
  generalize l8L.getD x 0 = v at hc ⊢
  unfold Instr.index
  have ha : (isAgg 5).run Tryd.prog w = .ok false w := by kernel_rfl
  simp [asIntOf, run_underlying hu, h, hsz, part, hc, ha]
def IntPost (z : Int) (w : World) (e : Ending) (w' : World) : Prop := e = .returned (.int .i64 z) ∧ Below w.heap.size w w'
set_option maxRecDepth 100000 in
set_option maxHeartbeats 2000000 in
theorem leadingZeros_any (x : Nat) (w : World) (h : x < 256) : Calls Tryd.prog 63 #[.int .u32 (x : Nat)] w (IntPost (32 - (l8L.getD x 0 : Nat)) w) := by
  have hv : l8L.getD x 0 ≤ 8 := by
    have h2 : ((List.range 256).all fun i => decide (l8L.getD i 0 ≤ 8)) = true := by kernel_rfl
    exact of_decide_eq_true (List.all_eq_true.mp h2 x (List.mem_range.mpr h))
  have hix := l8_index x h
  generalize l8L.getD x 0 = v at hv hix ⊢
  have q1 : ¬ (65536 : Int) ≤ x := by omega
  have q2 : ¬ (256 : Int) ≤ x := by omega
  go_enter Tryd.func63, Tryd.ntmps63
  go_wp2_with fail
  with_reducible refine (len8tab_any w).mono ?_
  rintro e w1 ⟨rfl, hb1⟩
  have HB1 := Lib.hid hb1
  clear hb1
  go_wp2
  go_ret
  exact ⟨by first | rfl | (congr 2; omega), HB1.out⟩
def SizePost (w : World) (e : Ending) (w' : World) : Prop := ∃ z : Nat, e = .returned (.int .i64 z) ∧ 1 ≤ z ∧ z ≤ 64 ∧ Below w.heap.size w w'
set_option maxRecDepth 100000 in
set_option maxHeartbeats 2000000 in
theorem tableSize_any (x : Nat) (w : World) (h1 : 1 ≤ x) (h : x < 64) : Calls Tryd.prog 59 #[.int .i64 (x : Nat)] w (SizePost w) := by
  obtain ⟨v1, v2⟩ := l8L_small x h1 h
  have HLZ := Lib.hid (leadingZeros_any x w (by omega))
  generalize l8L.getD x 0 = v at v1 v2 HLZ
  go_enter Tryd.func59, Tryd.ntmps59
  go_wp2_with fail
  with_reducible refine HLZ.out.mono ?_
  rintro e w1 ⟨rfl, hb1⟩
  have HB1 := Lib.hid hb1
  clear hb1 HLZ
  rcases (by omega : v = 1 ∨ v = 2 ∨ v = 3 ∨ v = 4 ∨ v = 5 ∨ v = 6) with rfl | rfl | rfl | rfl | rfl | rfl
  · by_cases hlt : (1 : Int) < x
    · go_wp2
      go_ret
      exact ⟨2, by rfl, by decide, by decide, HB1.out⟩
    · go_wp2
      go_ret
      exact ⟨1, by rfl, by decide, by decide, HB1.out⟩
  · by_cases hlt : (2 : Int) < x
    · go_wp2
      go_ret
      exact ⟨4, by rfl, by decide, by decide, HB1.out⟩
    · go_wp2
      go_ret
      exact ⟨2, by rfl, by decide, by decide, HB1.out⟩
  · by_cases hlt : (4 : Int) < x
    · go_wp2
      go_ret
      exact ⟨8, by rfl, by decide, by decide, HB1.out⟩
    · go_wp2
      go_ret
      exact ⟨4, by rfl, by decide, by decide, HB1.out⟩
  · by_cases hlt : (8 : Int) < x
    · go_wp2
      go_ret
      exact ⟨16, by rfl, by decide, by decide, HB1.out⟩
    · go_wp2
      go_ret
      exact ⟨8, by rfl, by decide, by decide, HB1.out⟩
  · by_cases hlt : (16 : Int) < x
    · go_wp2
      go_ret
      exact ⟨32, by rfl, by decide, by decide, HB1.out⟩
    · go_wp2
      go_ret
      exact ⟨16, by rfl, by decide, by decide, HB1.out⟩
  · by_cases hlt : (32 : Int) < x
    · go_wp2
      go_ret
      exact ⟨64, by rfl, by decide, by decide, HB1.out⟩
    · go_wp2
      go_ret
      exact ⟨32, by rfl, by decide, by decide, HB1.out⟩
end Go.Proofs.YtgibmkgibkhemaaDoor
