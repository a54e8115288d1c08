/- spec.GlobName ends on every pattern and every name: the walk. -/
import Derived.Test.YteipeagdflcjjaaDoorGlobTot
namespace Go.Proofs.YteipeagdflcjjaaDoor
open Go.RowKit
set_option linter.unusedSimpArgs false
set_option linter.unusedVariables false

def GTot (pb sb : ByteArray) : Prop := ∃ b, ∀ w : World, Calls Tryd.prog 15 #[.string pb, .string sb] w (QB b w)

theorem gt_empty (pb sb : ByteArray) (h : pb.size = 0) : GTot pb sb := by
  have hz := isEmpty_str pb h
  refine ⟨sb.toList.isEmpty, fun w => ?_⟩
  generalize hb : sb.toList.isEmpty = b
  go_enter Tryd.func15, Tryd.ntmps15
  go_wp2
  go_ret
  refine ⟨?_, 0, rfl⟩
  first | rfl | (rw [← hb]; rfl) | (show Ending.returned (.bool _) = _; simp)
set_option maxRecDepth 100000 in
set_option maxHeartbeats 4000000 in
theorem gt_star (pb sb : ByteArray) (hp : 1 ≤ pb.size) (hp2 : pb.size ≤ 4611686018427387904) (hs : sb.size ≤ 4611686018427387904) (hb0 : bx pb 0 = 42) (h1 : GTot (pb.extract 1 pb.size) sb) (h2 : 1 ≤ sb.size → GTot pb (sb.extract 1 sb.size)) : GTot pb sb := by
  have hze := isEmpty_str_not pb (by omega)
  have hb := bx_get pb 0 (by omega)
  rw [hb0] at hb
  have hts : (pb.extract 1 pb.size).size = pb.size - 1 := size_tail pb 1
  obtain ⟨b1, h1⟩ := h1
  have HC1 := Lib.hid h1; clear h1
  by_cases hz : sb.size = 0
  · have hse := isEmpty_str sb hz
    clear h2
    refine ⟨b1, fun w => ?_⟩
    go_enter Tryd.func15, Tryd.ntmps15
    go_wp2_with fail
    with_reducible refine (HC1.out _).mono ?_
    rintro e w' ⟨rfl, m1, hw1⟩
    have HW1 := Lib.hid hw1; clear hw1
    cases b1 with
    | true =>
      go_wp2
      go_ret
      exact ⟨rfl, m1, HW1.out⟩
    | false =>
      go_wp2
      go_ret
      exact ⟨rfl, m1, HW1.out⟩
  · have hse := isEmpty_str_not sb hz
    have hts2 : (sb.extract 1 sb.size).size = sb.size - 1 := size_tail sb 1
    obtain ⟨b2, h2⟩ := h2 (by omega)
    have HC2 := Lib.hid h2; clear h2
    have hlt : (1 : Int) ≤ sb.size := by omega
    refine ⟨b1 || b2, fun w => ?_⟩
    go_enter Tryd.func15, Tryd.ntmps15
    go_wp2_with fail
    with_reducible refine (HC1.out _).mono ?_
    rintro e w' ⟨rfl, m1, hw1⟩
    have HW1 := Lib.hid hw1; clear hw1
    cases b1 with
    | true =>
      go_wp2
      go_ret
      exact ⟨rfl, m1, HW1.out⟩
    | false =>
      go_wp2_with fail
      with_reducible refine (HC2.out _).mono ?_
      rintro e w2 ⟨rfl, m2, hw2⟩
      have HW2 : Hid (w2 = w.drewN (m1 + m2)) := Lib.hid (by rw [hw2, HW1.out, World.drewN_drewN])
      clear hw2
      go_wp2
      go_ret
      refine ⟨?_, m1 + m2, HW2.out⟩
      first | rfl | (cases b2 <;> rfl)
/-- A sign that takes one: '?', a letter, an escaped one. -/
theorem int_beq {x y : Nat} : ((x : Int) == (y : Int)) = decide (x = y) := by rw [Bool.eq_iff_iff, beq_iff_eq, decide_eq_true_iff]; omega
set_option maxRecDepth 100000 in
set_option maxHeartbeats 4000000 in
theorem gt_any (pb sb : ByteArray) (hp : 1 ≤ pb.size) (hp2 : pb.size ≤ 4611686018427387904) (hs : sb.size ≤ 4611686018427387904) (hb0 : bx pb 0 = 63) (h2 : 1 ≤ sb.size → GTot (pb.extract 1 pb.size) (sb.extract 1 sb.size)) : GTot pb sb := by
  have hze := isEmpty_str_not pb (by omega)
  have hb := bx_get pb 0 (by omega)
  rw [hb0] at hb
  have hlt2 : (1 : Int) ≤ pb.size := by omega
  by_cases hz : sb.size = 0
  · have hse := isEmpty_str sb hz
    clear h2
    refine ⟨false, fun w => ?_⟩
    go_enter Tryd.func15, Tryd.ntmps15
    go_wp2
    go_quiet (fail)
    go_wp2
    go_ret
    exact ⟨rfl, _, rfl⟩
  · have hse := isEmpty_str_not sb hz
    obtain ⟨b2, h2⟩ := h2 (by omega)
    have HCC := Lib.hid h2; clear h2
    have hlt : (1 : Int) ≤ sb.size := by omega
    refine ⟨b2, fun w => ?_⟩
    go_enter Tryd.func15, Tryd.ntmps15
    go_wp2
    go_quiet ((go_at_call 15; exact Calls.quiet_of (HCC.out _)))
    go_wp2
    go_ret
    refine ⟨?_, _, rfl⟩
    first | rfl | (cases b2 <;> rfl)
set_option maxRecDepth 100000 in
set_option maxHeartbeats 4000000 in
theorem gt_lit (pb sb : ByteArray) (hp : 1 ≤ pb.size) (hp2 : pb.size ≤ 4611686018427387904) (hs : sb.size ≤ 4611686018427387904) (hb42 : bx pb 0 ≠ 42) (hb63 : bx pb 0 ≠ 63) (hb91 : bx pb 0 ≠ 91) (hb92 : bx pb 0 ≠ 92) (h2 : 1 ≤ sb.size → GTot (pb.extract 1 pb.size) (sb.extract 1 sb.size)) : GTot pb sb := by
  have hze := isEmpty_str_not pb (by omega)
  have hb := bx_get pb 0 (by omega)
  generalize bx pb 0 = c at *
  have k1 : ((c : Int) == 42) = false := beq_eq_false_iff_ne.mpr (by omega)
  have k2 : ((c : Int) == 63) = false := beq_eq_false_iff_ne.mpr (by omega)
  have k3 : ((c : Int) == 91) = false := beq_eq_false_iff_ne.mpr (by omega)
  have k4 : ((c : Int) == 92) = false := beq_eq_false_iff_ne.mpr (by omega)
  have hlt2 : (1 : Int) ≤ pb.size := by omega
  have hlt4 : (0 : Int) < pb.size := by omega
  clear hb42 hb63 hb91 hb92
  by_cases hz : sb.size = 0
  · have hse := isEmpty_str sb hz
    clear h2
    refine ⟨false, fun w => ?_⟩
    go_enter Tryd.func15, Tryd.ntmps15
    go_wp2
    go_quiet (fail)
    go_wp2
    go_ret
    exact ⟨rfl, _, rfl⟩
  · have hse := isEmpty_str_not sb hz
    obtain ⟨b2, h2⟩ := h2 (by omega)
    have HCC := Lib.hid h2; clear h2
    have hlt : (1 : Int) ≤ sb.size := by omega
    have hlt3 : (0 : Int) < sb.size := by omega
    have hbs := bx_get sb 0 (by omega)
    generalize bx sb 0 = x at hbs
    obtain ⟨b, q1⟩ : ∃ b, ((x : Int) == (c : Int)) = b := ⟨_, rfl⟩
    cases b with
    | true =>
      refine ⟨b2, fun w => ?_⟩
      go_enter Tryd.func15, Tryd.ntmps15
      go_wp2
      go_quiet ((go_at_call 15; exact Calls.quiet_of (HCC.out _)))
      go_wp2
      go_ret
      refine ⟨?_, _, rfl⟩
      first | rfl | (cases b2 <;> rfl)
    | false =>
      refine ⟨false, fun w => ?_⟩
      go_enter Tryd.func15, Tryd.ntmps15
      go_wp2
      go_quiet ((go_at_call 15; exact Calls.quiet_of (HCC.out _)))
      go_wp2
      go_ret
      refine ⟨?_, _, rfl⟩
      first | rfl | (cases b2 <;> rfl)
set_option maxRecDepth 100000 in
set_option maxHeartbeats 4000000 in
theorem gt_esc (pb sb : ByteArray) (hp : 1 ≤ pb.size) (hp2 : pb.size ≤ 4611686018427387904) (hs : sb.size ≤ 4611686018427387904) (hb0 : bx pb 0 = 92) (h2 : 2 ≤ pb.size → 1 ≤ sb.size → GTot (pb.extract 2 pb.size) (sb.extract 1 sb.size)) : GTot pb sb := by
  have hze := isEmpty_str_not pb (by omega)
  have hb := bx_get pb 0 (by omega)
  rw [hb0] at hb
  by_cases h1 : 2 ≤ pb.size
  · have hp1 : (1 : Int) < pb.size := by omega
    have hlt2 : (2 : Int) ≤ pb.size := by omega
    have hb2 := bx_get pb 1 (by omega)
    generalize bx pb 1 = c at hb2
    by_cases hz : sb.size = 0
    · have hse := isEmpty_str sb hz
      clear h2
      refine ⟨false, fun w => ?_⟩
      go_enter Tryd.func15, Tryd.ntmps15
      go_wp2
      go_quiet (fail)
      go_wp2
      go_ret
      exact ⟨rfl, _, rfl⟩
    · have hse := isEmpty_str_not sb hz
      obtain ⟨b2, h2⟩ := h2 h1 (by omega)
      have HCC := Lib.hid h2; clear h2
      have hlt : (1 : Int) ≤ sb.size := by omega
      have hlt3 : (0 : Int) < sb.size := by omega
      have hbs := bx_get sb 0 (by omega)
      generalize bx sb 0 = x at hbs
      obtain ⟨b, q1⟩ : ∃ b, ((x : Int) == (c : Int)) = b := ⟨_, rfl⟩
      cases b with
      | true =>
        refine ⟨b2, fun w => ?_⟩
        go_enter Tryd.func15, Tryd.ntmps15
        go_wp2
        go_quiet ((go_at_call 15; exact Calls.quiet_of (HCC.out _)))
        go_wp2
        go_ret
        refine ⟨?_, _, rfl⟩
        first | rfl | (cases b2 <;> rfl)
      | false =>
        refine ⟨false, fun w => ?_⟩
        go_enter Tryd.func15, Tryd.ntmps15
        go_wp2
        go_quiet ((go_at_call 15; exact Calls.quiet_of (HCC.out _)))
        go_wp2
        go_ret
        refine ⟨?_, _, rfl⟩
        first | rfl | (cases b2 <;> rfl)
  · have hp1 : decide ((1 : Int) < pb.size) = false := decide_eq_false (by omega)
    have hp1' : ¬ (1 : Int) < pb.size := by omega
    clear h2
    refine ⟨false, fun w => ?_⟩
    go_enter Tryd.func15, Tryd.ntmps15
    go_wp2
    go_quiet (fail)
    go_wp2
    go_ret
    exact ⟨rfl, _, rfl⟩
set_option maxRecDepth 100000 in
set_option maxHeartbeats 4000000 in
theorem gt_set (pb sb : ByteArray) (hp : 1 ≤ pb.size) (hp2 : pb.size ≤ 4611686018427387904) (hs : sb.size ≤ 4611686018427387904) (hb0 : bx pb 0 = 91) (h2 : ∀ m, 2 ≤ m → m < pb.size → 1 ≤ sb.size → GTot (pb.extract (m + 1) pb.size) (sb.extract 1 sb.size)) : GTot pb sb := by
  have hze := isEmpty_str_not pb (by omega)
  have hb := bx_get pb 0 (by omega)
  rw [hb0] at hb
  obtain ⟨m, hm, hend⟩ := globEnd_tot pb hp2
  have HEND := Lib.hid hend; clear hend
  by_cases hz : sb.size = 0
  · have hse := isEmpty_str sb hz
    clear h2
    have hm64 : (m : Int) ≤ 4611686018427387904 := by omega
    refine ⟨false, fun w => ?_⟩
    go_enter Tryd.func15, Tryd.ntmps15
    go_wp2_with fail
    with_reducible refine (HEND.out _).mono ?_
    rintro e w' ⟨rfl, rfl⟩
    go_wp2
    go_quiet (fail)
    go_wp2
    go_ret
    exact ⟨rfl, _, rfl⟩
  · have hse := isEmpty_str_not sb hz
    have hlt : (1 : Int) ≤ sb.size := by omega
    have hlt3 : (0 : Int) < sb.size := by omega
    have hbs := bx_get sb 0 (by omega)
    rcases hm with rfl | ⟨hm2, hmlt⟩
    · clear h2
      refine ⟨false, fun w => ?_⟩
      go_enter Tryd.func15, Tryd.ntmps15
      go_wp2_with fail
      with_reducible refine (HEND.out _).mono ?_
      rintro e w' ⟨rfl, rfl⟩
      go_wp2
      go_quiet (fail)
      go_wp2
      go_ret
      exact ⟨rfl, _, rfl⟩
    · obtain ⟨b2, h2⟩ := h2 m hm2 hmlt (by omega)
      have HCC := Lib.hid h2; clear h2
      obtain ⟨b, hset⟩ := globSet_tot (pb.extract 1 m) (bx sb 0) (by rw [ByteArray.size_extract]; omega) (by rw [ByteArray.size_extract]; omega)
      generalize bx sb 0 = x at hbs hset
      have HSS := Lib.hid hset; clear hset
      have hl2 : (m : Int) + 1 ≤ pb.size := by omega
      have hl4 : 0 < m := by omega
      have hl5 : (1 : Int) ≤ m := by omega
      have hl6 : (m : Int) ≤ pb.size := by omega
      cases b with
      | true =>
        refine ⟨b2, fun w => ?_⟩
        go_enter Tryd.func15, Tryd.ntmps15
        go_wp2_with fail
        with_reducible refine (HEND.out _).mono ?_
        rintro e w' ⟨rfl, rfl⟩
        go_wp2
        go_quiet (first | (go_at_call 34; exact (HSS.out _).mono (fun _ _ ⟨he, hm⟩ => ⟨he, _, hm.symm⟩)) | (go_at_call 15; exact Calls.quiet_of (HCC.out _)))
        go_wp2
        go_ret
        refine ⟨?_, _, rfl⟩
        first | rfl | (cases b2 <;> rfl)
      | false =>
        refine ⟨false, fun w => ?_⟩
        go_enter Tryd.func15, Tryd.ntmps15
        go_wp2_with fail
        with_reducible refine (HEND.out _).mono ?_
        rintro e w' ⟨rfl, rfl⟩
        go_wp2
        go_quiet (first | (go_at_call 34; exact (HSS.out _).mono (fun _ _ ⟨he, hm⟩ => ⟨he, _, hm.symm⟩)) | (go_at_call 15; exact Calls.quiet_of (HCC.out _)))
        go_wp2
        go_ret
        refine ⟨?_, _, rfl⟩
        first | rfl | (cases b2 <;> rfl)
theorem globName_tot (n : Nat) : ∀ pb sb : ByteArray, pb.size + sb.size < n → pb.size ≤ 4611686018427387904 → sb.size ≤ 4611686018427387904 → GTot pb sb := by
  induction n with
  | zero => intro pb sb h; omega
  | succ n ih =>
    intro pb sb hn hp hs
    by_cases h0 : pb.size = 0
    · exact gt_empty pb sb h0
    have hts : ∀ k, (pb.extract k pb.size).size = pb.size - k := fun k => size_tail pb k
    have hts2 : (sb.extract 1 sb.size).size = sb.size - 1 := size_tail sb 1
    by_cases h42 : bx pb 0 = 42
    · exact gt_star pb sb (by omega) hp hs h42 (ih _ _ (by rw [hts]; omega) (by rw [hts]; omega) hs) (fun h => ih _ _ (by rw [hts2]; omega) hp (by rw [hts2]; omega))
    by_cases h63 : bx pb 0 = 63
    · exact gt_any pb sb (by omega) hp hs h63 (fun h => ih _ _ (by rw [hts, hts2]; omega) (by rw [hts]; omega) (by rw [hts2]; omega))
    by_cases h91 : bx pb 0 = 91
    · exact gt_set pb sb (by omega) hp hs h91 (fun m h1 h2 h => ih _ _ (by rw [hts, hts2]; omega) (by rw [hts]; omega) (by rw [hts2]; omega))
    by_cases h92 : bx pb 0 = 92
    · exact gt_esc pb sb (by omega) hp hs h92 (fun h1 h => ih _ _ (by rw [hts, hts2]; omega) (by rw [hts]; omega) (by rw [hts2]; omega))
    exact gt_lit pb sb (by omega) hp hs h42 h63 h91 h92 (fun h => ih _ _ (by rw [hts, hts2]; omega) (by rw [hts]; omega) (by rw [hts2]; omega))
end Go.Proofs.YteipeagdflcjjaaDoor
