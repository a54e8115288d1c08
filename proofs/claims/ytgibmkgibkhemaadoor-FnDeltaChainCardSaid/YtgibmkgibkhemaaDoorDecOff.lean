/- decodeOffset, decodeSize at the one command that packAwake holds. -/
import Derived.Test.YtgibmkgibkhemaaDoorDeltaSmall
namespace Go.Proofs.YtgibmkgibkhemaaDoor
open Go.RowKit
set_option linter.unusedSimpArgs false
set_option linter.unusedVariables false

def offV : Value := .agg #[.int .u8 1, .int .u64 0, .int .u8 2, .int .u64 8, .int .u8 4, .int .u64 16, .int .u8 8, .int .u64 24]
theorem oidx0 (w : World) : (Instr.index 112 (.agg #[.int .u8 1, .int .u64 0, .int .u8 2, .int .u64 8, .int .u8 4, .int .u64 16, .int .u8 8, .int .u64 24]) (.int .i64 0)).run Tryd.prog w = .ok (.agg #[.int .u8 1, .int .u64 0]) w := by kernel_rfl
theorem oidx1 (w : World) : (Instr.index 112 (.agg #[.int .u8 1, .int .u64 0, .int .u8 2, .int .u64 8, .int .u8 4, .int .u64 16, .int .u8 8, .int .u64 24]) (.int .i64 1)).run Tryd.prog w = .ok (.agg #[.int .u8 2, .int .u64 8]) w := by kernel_rfl
theorem oidx2 (w : World) : (Instr.index 112 (.agg #[.int .u8 1, .int .u64 0, .int .u8 2, .int .u64 8, .int .u8 4, .int .u64 16, .int .u8 8, .int .u64 24]) (.int .i64 2)).run Tryd.prog w = .ok (.agg #[.int .u8 4, .int .u64 16]) w := by kernel_rfl
theorem oidx3 (w : World) : (Instr.index 112 (.agg #[.int .u8 1, .int .u64 0, .int .u8 2, .int .u64 8, .int .u8 4, .int .u64 16, .int .u8 8, .int .u64 24]) (.int .i64 3)).run Tryd.prog w = .ok (.agg #[.int .u8 8, .int .u64 24]) w := by kernel_rfl

theorem sidx0 (w : World) : (Instr.index 114 (.agg #[.int .u8 16, .int .u64 0, .int .u8 32, .int .u64 8, .int .u8 64, .int .u64 16]) (.int .i64 0)).run Tryd.prog w = .ok (.agg #[.int .u8 16, .int .u64 0]) w := by kernel_rfl
theorem sidx1 (w : World) : (Instr.index 114 (.agg #[.int .u8 16, .int .u64 0, .int .u8 32, .int .u64 8, .int .u8 64, .int .u64 16]) (.int .i64 1)).run Tryd.prog w = .ok (.agg #[.int .u8 32, .int .u64 8]) w := by kernel_rfl
theorem sidx2 (w : World) : (Instr.index 114 (.agg #[.int .u8 16, .int .u64 0, .int .u8 32, .int .u64 8, .int .u8 64, .int .u64 16]) (.int .i64 2)).run Tryd.prog w = .ok (.agg #[.int .u8 64, .int .u64 16]) w := by kernel_rfl
def CmdPost (x b off n c : Nat) (w : World) (e : Ending) (w' : World) : Prop :=
  e = .returned (.tuple #[.int .u64 (x : Nat), .slice (some ⟨b, off + 1, none⟩) (n - 1) (c - 1), .nilIface]) ∧ Below w.heap.size w w'

set_option maxRecDepth 100000 in
set_option maxHeartbeats 2000000 in
theorem decodeOff_145 (b off n c x : Nat) (w : World) (hn : 1 ≤ n) (hn2 : n ≤ 1000) (hc : 2 ≤ c) (hnc : n ≤ c) (hc2 : c ≤ 9223372036854775807) (hx : x < 256) (hb : b < w.heap.size) (hcell : w.cell? ⟨b, off, none⟩ = some (.int .u8 (x : Nat))) :
    Calls Tryd.prog 31 #[.int .u8 145, .slice (some ⟨b, off, none⟩) n c] w (CmdPost x b off n c w) := by
  have HC := Lib.hid hcell; clear hcell
  have HBL := Lib.hid hb; clear hb
  go_enter Tryd.func31, Tryd.ntmps31
  go_wp2_with fail
  with_reducible refine (offsets_any _).mono ?_
  rintro e w1 ⟨rfl, hb⟩
  have HB := Lib.hid hb; clear hb
  have o0 := oidx0; have o1 := oidx1; have o2 := oidx2; have o3 := oidx3
  go_wp2
  go_loopw [1, 7, 11] (fun d m i wr => ∃ k : Nat, k ≤ 4 ∧ i = .int .i64 k ∧ Below w.heap.size w wr ∧ ((k = 0 ∧ d = .slice (some ⟨b, off, none⟩) n c ∧ m = .int .u64 0) ∨ (k ≠ 0 ∧ d = .slice (some ⟨b, off + 1, none⟩) (n - 1) (c - 1) ∧ m = .int .u64 (x : Nat)))) (fun _ _ i _ => 4 - (intOf i).toNat)
  case atStart => exact ⟨0, by omega, rfl, HB.out, .inl ⟨rfl, rfl, rfl⟩⟩
  case round =>
    obtain ⟨k, hk, rfl, hbel, hst⟩ := hrel
    have HB2 := Lib.hid hbel; clear hbel
    rcases hst with ⟨rfl, rfl, rfl⟩ | ⟨hk0, rfl, rfl⟩
    · have hcl : wr.cell? ⟨b, off, none⟩ = some (.int .u8 (x : Nat)) := (HB2.out.cell (p := ⟨b, off, none⟩) HBL.out).trans HC.out
      go_upto_region 5 with (fail)
      have hv0 : (wr.alloc (.cells #[.int .u8 1, .int .u64 0] 111)).cell? ⟨wr.heap.size, 0, none⟩ = some (.int .u8 1) := World.cell?_alloc_mark wr _ 111 (0, 0) 0
      have hv1 : (wr.alloc (.cells #[.int .u8 1, .int .u64 0] 111)).cell? ⟨wr.heap.size, 1, none⟩ = some (.int .u64 0) := World.cell?_alloc_mark wr _ 111 (0, 0) 1
      have HBV : Hid (Below w.heap.size w (wr.alloc (.cells #[.int .u8 1, .int .u64 0] 111))) := Lib.hid (HB2.out.alloc HB2.out.size _)
      have hcv : (wr.alloc (.cells #[.int .u8 1, .int .u64 0] 111)).cell? ⟨b, off, none⟩ = some (.int .u8 (x : Nat)) := (HBV.out.cell (p := ⟨b, off, none⟩) HBL.out).trans HC.out
      generalize wr.alloc _ = V at hv0 hv1 HBV hcv ⊢
      clear hcl o0 o1 o2 o3
      have a1 : bits .and .u8 145 1 = 1 := by decide
      have hn0 : ((n : Int) == 0) = false := beq_eq_false_iff_ne.mpr (by omega)
      have hni : (0 : Int) < n := by omega
      have s1 : IntKind.u64.wrap ((x : Int) * 2 ^ 0) = (x : Int) := by rw [IntKind.wrap_u64]; omega
      have r1 : bits .or .u64 0 (x : Int) = (x : Int) := by
        have h := u64_or_nat 0 x (by decide) (by omega)
        rw [Nat.zero_or] at h
        exact h
      go_upto_region 8 with (fail)
      have hc1 : ¬ c - 1 = 0 := by omega
      go_quiet (fail)
      go_wp2
      go_roundw
      case rel => exact ⟨1, by omega, by first | rfl | go_num, below_drewN HBV.out _, .inr ⟨by decide, rfl, rfl⟩⟩
      case measure => simp [intOf]
    · have hk' : k = 1 ∨ k = 2 ∨ k = 3 ∨ k = 4 := by omega
      rcases hk' with rfl | rfl | rfl | rfl
      · go_wp2
        go_roundw
        case rel => exact ⟨2, by omega, by first | rfl | go_num, HB2.out.alloc HB2.out.size _, .inr ⟨by omega, rfl, rfl⟩⟩
        case measure => simp [intOf]
      · go_wp2
        go_roundw
        case rel => exact ⟨3, by omega, by first | rfl | go_num, HB2.out.alloc HB2.out.size _, .inr ⟨by omega, rfl, rfl⟩⟩
        case measure => simp [intOf]
      · go_wp2
        go_roundw
        case rel => exact ⟨4, by omega, by first | rfl | go_num, HB2.out.alloc HB2.out.size _, .inr ⟨by omega, rfl, rfl⟩⟩
        case measure => simp [intOf]
      · go_wp2
        go_ret3
        exact ⟨rfl, HB2.out⟩
set_option maxRecDepth 100000 in
set_option maxHeartbeats 2000000 in
theorem decodeSize_145 (b off n c x : Nat) (w : World) (hn : 1 ≤ n) (hn2 : n ≤ 1000) (hc : 2 ≤ c) (hnc : n ≤ c) (hc2 : c ≤ 9223372036854775807) (hx : x < 256) (hx0 : x ≠ 0) (hb : b < w.heap.size) (hcell : w.cell? ⟨b, off, none⟩ = some (.int .u8 (x : Nat))) :
    Calls Tryd.prog 32 #[.int .u8 145, .slice (some ⟨b, off, none⟩) n c] w (CmdPost x b off n c w) := by
  have HC := Lib.hid hcell; clear hcell
  have hxz : ((x : Int) == 0) = false := beq_eq_false_iff_ne.mpr (by omega)
  have HBL := Lib.hid hb; clear hb
  go_enter Tryd.func32, Tryd.ntmps32
  go_wp2_with fail
  with_reducible refine (sizes_any _).mono ?_
  rintro e w1 ⟨rfl, hb⟩
  have HB := Lib.hid hb; clear hb
  have o0 := sidx0; have o1 := sidx1; have o2 := sidx2
  go_wp2
  go_loopw [1, 7, 11] (fun d m i wr => ∃ k : Nat, k ≤ 3 ∧ i = .int .i64 k ∧ Below w.heap.size w wr ∧ ((k = 0 ∧ d = .slice (some ⟨b, off, none⟩) n c ∧ m = .int .u64 0) ∨ (k ≠ 0 ∧ d = .slice (some ⟨b, off + 1, none⟩) (n - 1) (c - 1) ∧ m = .int .u64 (x : Nat)))) (fun _ _ i _ => 3 - (intOf i).toNat)
  case atStart => exact ⟨0, by omega, rfl, HB.out, .inl ⟨rfl, rfl, rfl⟩⟩
  case round =>
    obtain ⟨k, hk, rfl, hbel, hst⟩ := hrel
    have HB2 := Lib.hid hbel; clear hbel
    rcases hst with ⟨rfl, rfl, rfl⟩ | ⟨hk0, rfl, rfl⟩
    · have hcl : wr.cell? ⟨b, off, none⟩ = some (.int .u8 (x : Nat)) := (HB2.out.cell (p := ⟨b, off, none⟩) HBL.out).trans HC.out
      go_upto_region 5 with (fail)
      have hv0 : (wr.alloc (.cells #[.int .u8 16, .int .u64 0] 111)).cell? ⟨wr.heap.size, 0, none⟩ = some (.int .u8 16) := World.cell?_alloc_mark wr _ 111 (0, 0) 0
      have hv1 : (wr.alloc (.cells #[.int .u8 16, .int .u64 0] 111)).cell? ⟨wr.heap.size, 1, none⟩ = some (.int .u64 0) := World.cell?_alloc_mark wr _ 111 (0, 0) 1
      have HBV : Hid (Below w.heap.size w (wr.alloc (.cells #[.int .u8 16, .int .u64 0] 111))) := Lib.hid (HB2.out.alloc HB2.out.size _)
      have hcv : (wr.alloc (.cells #[.int .u8 16, .int .u64 0] 111)).cell? ⟨b, off, none⟩ = some (.int .u8 (x : Nat)) := (HBV.out.cell (p := ⟨b, off, none⟩) HBL.out).trans HC.out
      generalize wr.alloc _ = V at hv0 hv1 HBV hcv ⊢
      clear hcl o0 o1 o2
      have a1 : bits .and .u8 145 16 = 16 := by decide
      have hn0 : ((n : Int) == 0) = false := beq_eq_false_iff_ne.mpr (by omega)
      have hni : (0 : Int) < n := by omega
      have s1 : IntKind.u64.wrap ((x : Int) * 2 ^ 0) = (x : Int) := by rw [IntKind.wrap_u64]; omega
      have r1 : bits .or .u64 0 (x : Int) = (x : Int) := by
        have h := u64_or_nat 0 x (by decide) (by omega)
        rw [Nat.zero_or] at h
        exact h
      go_upto_region 8 with (fail)
      have hc1 : ¬ c - 1 = 0 := by omega
      go_quiet (fail)
      go_wp2
      go_roundw
      case rel => exact ⟨1, by omega, by first | rfl | go_num, below_drewN HBV.out _, .inr ⟨by decide, rfl, rfl⟩⟩
      case measure => simp [intOf]
    · have hk' : k = 1 ∨ k = 2 ∨ k = 3 := by omega
      rcases hk' with rfl | rfl | rfl
      · go_wp2
        go_roundw
        case rel => exact ⟨2, by omega, by first | rfl | go_num, HB2.out.alloc HB2.out.size _, .inr ⟨by omega, rfl, rfl⟩⟩
        case measure => simp [intOf]
      · go_wp2
        go_roundw
        case rel => exact ⟨3, by omega, by first | rfl | go_num, HB2.out.alloc HB2.out.size _, .inr ⟨by omega, rfl, rfl⟩⟩
        case measure => simp [intOf]
      · go_wp2
        go_ret3
        exact ⟨rfl, HB2.out⟩
end Go.Proofs.YtgibmkgibkhemaaDoor
