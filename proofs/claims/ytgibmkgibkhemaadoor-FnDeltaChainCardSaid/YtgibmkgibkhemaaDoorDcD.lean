/- patchDelta of whatever operations. -/
import Derived.Test.YtgibmkgibkhemaaDoorPatchA
import Derived.Test.YtgibmkgibkhemaaDoorDcC
namespace Go.Proofs.YtgibmkgibkhemaaDoor
open Go.RowKit
set_option linter.unusedSimpArgs false
set_option linter.unusedVariables false

theorem and128_low : ∀ x : Nat, x < 128 → bits .and .u8 (x : Int) 128 = 0 := by decide
theorem copySrc_yes (x : Nat) (w : World) (h : bits .and .u8 (x : Int) 128 = 128) : Calls Tryd.prog 30 #[.int .u8 (x : Nat)] w fun e w' => e = .returned (.bool true) ∧ w = w' := by
  go_enter Tryd.func30, Tryd.ntmps30
  go_wp2
  go_ret
  exact ⟨by first | rfl | decide, rfl⟩
theorem copySrc_no (x : Nat) (w : World) (h : bits .and .u8 (x : Int) 128 = 0) : Calls Tryd.prog 30 #[.int .u8 (x : Nat)] w fun e w' => e = .returned (.bool false) ∧ w = w' := by
  go_enter Tryd.func30, Tryd.ntmps30
  go_wp2
  go_ret
  exact ⟨by first | rfl | decide, rfl⟩
theorem copyDelta_yes (x : Nat) (w : World) (h : bits .and .u8 (x : Int) 128 = 0) (h0 : x ≠ 0) : Calls Tryd.prog 36 #[.int .u8 (x : Nat)] w fun e w' => e = .returned (.bool true) ∧ w = w' := by
  have hz : ((x : Int) == 0) = false := beq_eq_false_iff_ne.mpr (by omega)
  have hz2 : ((x : Int) != 0) = true := by simp; omega
  go_enter Tryd.func36, Tryd.ntmps36
  go_wp2
  go_ret
  exact ⟨ret_bool (by first | exact hz2 | rfl), rfl⟩
theorem invalidSize_no (a b : Nat) (w : World) (h : a ≤ b) : Calls Tryd.prog 33 #[.int .u64 (a : Nat), .int .u64 (b : Nat)] w fun e w' => e = .returned (.bool false) ∧ w = w' :=
  (invalidSize_any a b w).mono fun e w' ⟨h1, h2⟩ => ⟨by rw [h1, decide_eq_false (by omega)], h2⟩
theorem min_small (T : Nat) (h : T < 65536) (w : World) : (Builtin.min_ #[37, 37] 37 #[.int .u64 (T : Nat), .int .u64 65536]).run Tryd.prog w = .ok (.int .u64 (T : Nat)) w := by
  have hn : ¬ (65536 : Int) < (T : Int) := by omega
  simp [Builtin.min_, Builtin.min2, hn]

/-- decodeLEB128 of a number's bytes. -/
theorem dec_any (db o x : Nat) (R : List Nat) (v : Value) (w : World) (hx : x < 16384) (hv : Sl db o (lebE x ++ R).length v) (hn : (lebE x ++ R).length ≤ 100000) (hR : ∀ c ∈ R, c < 256)
    (hcell : ∀ i, i < (lebE x ++ R).length → w.cell? ⟨db, o + i, none⟩ = some (.int .u8 ((lebE x ++ R).getD i 0 : Nat))) :
    Calls Tryd.prog 22 #[v] w fun e w' => ∃ v', e = .returned (.tuple #[.int .u64 (x : Nat), v', .nilIface]) ∧ Sl db (o + (lebE x).length) R.length v' ∧ Below w.heap.size w w' := by
  obtain ⟨o', C, rfl, hnC, hC, ho⟩ := hv
  have hlt : ∀ i, i < (lebE x ++ R).length → (lebE x ++ R).getD i 0 < 256 := by
    intro i hi
    rw [List.getD_eq_getElem?_getD, List.getElem?_eq_getElem hi]
    rcases List.mem_append.mp (List.getElem_mem hi) with h | h
    · exact lebE_lt hx _ h
    · exact hR _ h
  by_cases h128 : x < 128
  · have hL : lebE x = [x] := by unfold lebE; rw [if_pos h128]
    rw [hL] at hn hcell hnC ho hlt ⊢
    have hl : ([x] ++ R).length = R.length + 1 := by simp
    obtain rfl : o' = o := ho (by omega)
    refine (decode_any db o' ([x] ++ R).length C 0 (fun i => ([x] ++ R).getD i 0) w (by omega) (by decide) hn hnC hC hlt (by intro i hi; omega) (by show x < 128; exact h128) hcell).mono ?_
    rintro e w1 ⟨o1, C1, rfl, q1, q2, q3, hb1⟩
    have e1 : lebN (fun i => ([x] ++ R).getD i 0) (0 + 1) = x := by
      show 0 + (x % 128) * 128 ^ 0 = x
      rw [Nat.mod_eq_of_lt h128]; simp
    refine ⟨_, by rw [e1], ⟨o1, C1, by rw [hl]; rfl, by rw [hl] at q1; exact q1, q2, fun h => ?_⟩, hb1⟩
    exact q3 (by rw [hl]; omega)
  · have hL : lebE x = [x % 128 + 128, x / 128] := by unfold lebE; rw [if_neg h128]
    rw [hL] at hn hcell hnC ho hlt ⊢
    have hl : ([x % 128 + 128, x / 128] ++ R).length = R.length + 2 := by simp
    obtain rfl : o' = o := ho (by omega)
    have hcont : ∀ i, i < 1 → 128 ≤ (fun i => ([x % 128 + 128, x / 128] ++ R).getD i 0) i := by
      intro i hi
      obtain rfl : i = 0 := by omega
      show 128 ≤ x % 128 + 128
      omega
    refine (decode_any db o' ([x % 128 + 128, x / 128] ++ R).length C 1 (fun i => ([x % 128 + 128, x / 128] ++ R).getD i 0) w (by omega) (by decide) hn hnC hC hlt hcont (by show x / 128 < 128; omega) hcell).mono ?_
    rintro e w1 ⟨o1, C1, rfl, q1, q2, q3, hb1⟩
    have e1 : lebN (fun i => ([x % 128 + 128, x / 128] ++ R).getD i 0) (1 + 1) = x := by
      show (0 + ((x % 128 + 128) % 128) * 128 ^ 0) + ((x / 128) % 128) * 128 ^ 1 = x
      simp only [Nat.pow_zero, Nat.pow_one, Nat.mul_one, Nat.zero_add]
      omega
    refine ⟨_, by rw [e1], ⟨o1, C1, by rw [hl]; rfl, by rw [hl] at q1; exact q1, q2, fun h => ?_⟩, hb1⟩
    exact q3 (by rw [hl]; omega)
theorem getD_off (H E : List Nat) (i : Nat) : (H ++ E).getD (H.length + i) 0 = E.getD i 0 := by
  simp [List.getD_eq_getElem?_getD, List.getElem?_append_right]
end Go.Proofs.YtgibmkgibkhemaaDoor
