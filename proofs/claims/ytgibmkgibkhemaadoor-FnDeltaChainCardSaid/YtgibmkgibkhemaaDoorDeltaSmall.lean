/- The small functions of patchDelta. -/
import Derived.Test.YtgibmkgibkhemaaDoorPackLeb
namespace Go.Proofs.YtgibmkgibkhemaaDoor
open Go.RowKit
set_option linter.unusedSimpArgs false
set_option linter.unusedVariables false

theorem and128u8 : bits .and .u8 145 128 = 128 := by decide
theorem isCopySrc_145 (w : World) : Calls Tryd.prog 30 #[.int .u8 145] w fun e w' => e = .returned (.bool true) ∧ w = w' := by
  go_enter Tryd.func30, Tryd.ntmps30
  go_wp2
  go_ret
  exact ⟨by first | rfl | decide, rfl⟩
theorem isCopySrc_2 (w : World) : Calls Tryd.prog 30 #[.int .u8 2] w fun e w' => e = .returned (.bool false) ∧ w = w' := by
  go_enter Tryd.func30, Tryd.ntmps30
  go_wp2
  go_ret
  exact ⟨by first | rfl | decide, rfl⟩
theorem isCopyDelta_2 (w : World) : Calls Tryd.prog 36 #[.int .u8 2] w fun e w' => e = .returned (.bool true) ∧ w = w' := by
  go_enter Tryd.func36, Tryd.ntmps36
  go_wp2
  go_ret
  exact ⟨by first | rfl | decide, rfl⟩
theorem invalidSize_any (a b : Nat) (w : World) : Calls Tryd.prog 33 #[.int .u64 (a : Nat), .int .u64 (b : Nat)] w fun e w' => e = .returned (.bool (decide (b < a))) ∧ w = w' := by
  go_enter Tryd.func33, Tryd.ntmps33
  go_wp2
  go_ret
  exact ⟨ret_bool (by first | rfl | (rw [decide_eq_decide]; omega)), rfl⟩
theorem sumOverflows_no (a b : Nat) (w : World) (h : a + b < 1000000) : Calls Tryd.prog 48 #[.int .u64 (a : Nat), .int .u64 (b : Nat)] w fun e w' => e = .returned (.bool false) ∧ w = w' := by
  go_enter Tryd.func48, Tryd.ntmps48
  go_wp2
  go_ret
  refine ⟨ret_bool ?_, rfl⟩
  rw [decide_eq_false_iff_not]; omega
theorem invalidOffset_no (a b c : Nat) (w : World) (h : a + b < 1000000) (hc : a + b ≤ c) : Calls Tryd.prog 34 #[.int .u64 (a : Nat), .int .u64 (b : Nat), .int .u64 (c : Nat)] w fun e w' => e = .returned (.bool false) ∧ w = w' := by
  have hc' : (a : Int) + b ≤ c := by omega
  go_enter Tryd.func34, Tryd.ntmps34
  go_wp2_with fail
  with_reducible refine (sumOverflows_no a b w h).mono ?_
  rintro e w' ⟨rfl, rfl⟩
  go_wp2
  go_ret
  exact ⟨ret_bool (by first | rfl | (rw [decide_eq_false_iff_not]; omega)), rfl⟩

set_option maxHeartbeats 400000 in
theorem offsets_any (w : World) : Calls Tryd.prog 46 #[] w fun e w' => e = .returned (.agg #[.int .u8 1, .int .u64 0, .int .u8 2, .int .u64 8, .int .u8 4, .int .u64 16, .int .u8 8, .int .u64 24]) ∧ Below w.heap.size w w' := by
  go_enter Tryd.func46, Tryd.ntmps46
  go_wp2
  have hc : ∀ j v, (#[.int .u8 1, .int .u64 0, .int .u8 2, .int .u64 8, .int .u8 4, .int .u64 16, .int .u8 8, .int .u64 24] : Array Value)[j]? = some v → (w.alloc (.cells #[.int .u8 1, .int .u64 0, .int .u8 2, .int .u64 8, .int .u8 4, .int .u64 16, .int .u8 8, .int .u64 24] 112)).cell? ⟨w.heap.size, j, none⟩ = some v := fun j v hj => (World.cell?_alloc_mark w #[.int .u8 1, .int .u64 0, .int .u8 2, .int .u64 8, .int .u8 4, .int .u64 16, .int .u8 8, .int .u64 24] 112 (0, 0) j).trans hj
  have c0 := hc 0 _ rfl
  have c1 := hc 1 _ rfl
  have c2 := hc 2 _ rfl
  have c3 := hc 3 _ rfl
  have c4 := hc 4 _ rfl
  have c5 := hc 5 _ rfl
  have c6 := hc 6 _ rfl
  have c7 := hc 7 _ rfl
  refine bodyPost_ret (v := .agg #[.int .u8 1, .int .u64 0, .int .u8 2, .int .u64 8, .int .u8 4, .int .u64 16, .int .u8 8, .int .u64 24]) ?_ rfl ⟨rfl, (Below.refl _ _).alloc (Nat.le_refl _) _⟩
  simp [results, Tryd.results46, go_sem, c0, c1, c2, c3, c4, c5, c6, c7]

set_option maxHeartbeats 400000 in
theorem sizes_any (w : World) : Calls Tryd.prog 47 #[] w fun e w' => e = .returned (.agg #[.int .u8 16, .int .u64 0, .int .u8 32, .int .u64 8, .int .u8 64, .int .u64 16]) ∧ Below w.heap.size w w' := by
  go_enter Tryd.func47, Tryd.ntmps47
  go_wp2
  have hc : ∀ j v, (#[.int .u8 16, .int .u64 0, .int .u8 32, .int .u64 8, .int .u8 64, .int .u64 16] : Array Value)[j]? = some v → (w.alloc (.cells #[.int .u8 16, .int .u64 0, .int .u8 32, .int .u64 8, .int .u8 64, .int .u64 16] 114)).cell? ⟨w.heap.size, j, none⟩ = some v := fun j v hj => (World.cell?_alloc_mark w #[.int .u8 16, .int .u64 0, .int .u8 32, .int .u64 8, .int .u8 64, .int .u64 16] 114 (0, 0) j).trans hj
  have c0 := hc 0 _ rfl
  have c1 := hc 1 _ rfl
  have c2 := hc 2 _ rfl
  have c3 := hc 3 _ rfl
  have c4 := hc 4 _ rfl
  have c5 := hc 5 _ rfl
  refine bodyPost_ret (v := .agg #[.int .u8 16, .int .u64 0, .int .u8 32, .int .u64 8, .int .u8 64, .int .u64 16]) ?_ rfl ⟨rfl, (Below.refl _ _).alloc (Nat.le_refl _) _⟩
  simp [results, Tryd.results47, go_sem, c0, c1, c2, c3, c4, c5]
end Go.Proofs.YtgibmkgibkhemaaDoor
