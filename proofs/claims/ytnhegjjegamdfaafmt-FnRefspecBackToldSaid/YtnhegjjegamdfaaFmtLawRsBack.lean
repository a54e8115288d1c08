/- FnRefspecBack. -/
import Derived.Test.YtnhegjjegamdfaaFmtRgM
import Derived.Test.YtnhegjjegamdfaaFmtRgN
import Derived.Test.YtnhegjjegamdfaaFmtAwakeR
namespace Go.Proofs.YtnhegjjegamdfaaFmt
open Go.RowKit
set_option linter.unusedSimpArgs false
set_option linter.unusedVariables false

theorem alloc_row {w W1 : World} {C : Array Value} {T : TypeId} (h : w.alloc (.cells C T) = W1) : Hid (W1.heap[w.heap.size]? = some (.cells C T (0, 0))) ∧ Hid (Below w.heap.size w W1) ∧ Hid (w.heap.size < W1.heap.size) := by
  subst h
  exact ⟨Lib.hid (heap_new _ _), Lib.hid ((Below.refl _ _).alloc (Nat.le_refl _) _), Lib.hid (by rw [heap_new_size]; omega)⟩
set_option maxRecDepth 100000 in
set_option maxHeartbeats 8000000 in
theorem lawRefBack_any (f wl : Bool) (a b c d p : ByteArray) (w : World) :
    Calls Tryf.prog 3 #[.agg #[.bool f, .bool wl, .string a, .string b, .string c, .string d], .string p] w fun e w' => e = .returned (.bool true) ∧ Below w.heap.size w w' := by
  have HF := Lib.hid (fun w => fits8_any f wl a b c d w)
  by_cases h1 : (2147483647 : Int) < p.size
  · go_enter Tryf.func3, Tryf.ntmps3
    go_wp2_with fail
    generalize hW : w.alloc _ = W1
    obtain ⟨HR1, HB1, HZ1⟩ := alloc_row hW
    clear hW
    go_wp2_with (refine wpList_load_row rfl 23 (.tmp 2) rfl w.heap.size rfl 23 #[.bool f, .bool wl, .string a, .string b, .string c, .string d] (0, 0) _ HR1.out rsKind rfl rsSize ?_)
    with_reducible refine (HF.out _).mono ?_
    rintro e w2 ⟨B, rfl, hB, hb2⟩
    have HB2 : Hid (Below w.heap.size w w2) := Lib.hid (HB1.out.trans (hb2.mono HB1.out.size))
    clear hB hb2
    cases B with
    | false =>
      go_wp2
      go_ret
      exact ⟨rfl, HB2.out⟩
    | true =>
      go_wp2
      go_ret
      exact ⟨rfl, HB2.out⟩
  have h1i : (p.size : Int) ≤ 2147483647 := by omega
  clear h1
  go_enter Tryf.func3, Tryf.ntmps3
  go_wp2_with fail
  generalize hW : w.alloc _ = W1
  obtain ⟨HROW, HB1, HZ1⟩ := alloc_row hW
  clear hW
  go_wp2_with (refine wpList_load_row rfl 23 (.tmp 2) rfl w.heap.size rfl 23 #[.bool f, .bool wl, .string a, .string b, .string c, .string d] (0, 0) _ HROW.out rsKind rfl rsSize ?_)
  with_reducible refine (HF.out _).mono ?_
  rintro e w2 ⟨B, rfl, hB, hb2⟩
  have HB2 : Hid (Below w.heap.size w w2) := Lib.hid (HB1.out.trans (hb2.mono HB1.out.size))
  have HZ2 : Hid (w.heap.size < w2.heap.size) := Lib.hid (Nat.lt_of_lt_of_le HZ1.out hb2.size)
  replace HROW := Lib.hid ((hb2.block w.heap.size HZ1.out).trans HROW.out)
  clear hb2
  cases B with
  | false =>
    clear hB
    go_wp2
    go_ret
    exact ⟨rfl, HB2.out⟩
  | true =>
  have HFIT : Hid (Fits8 a b c d) := Lib.hid (hB.mp rfl)
  clear hB HB1 HZ1
  have HIS := Lib.hid (fun w => IsRefspec_any f wl a b c d w HFIT.out)
  go_wp2_with (refine wpList_load_row rfl 23 (.tmp 2) rfl w.heap.size rfl 23 #[.bool f, .bool wl, .string a, .string b, .string c, .string d] (0, 0) _ HROW.out rsKind rfl rsSize ?_)
  with_reducible refine (HIS.out _).mono ?_
  rintro e w3 ⟨B, rfl, hB, hb3⟩
  have HB3 : Hid (Below w.heap.size w w3) := Lib.hid (HB2.out.trans (hb3.mono HB2.out.size))
  have HZ3 : Hid (w.heap.size < w3.heap.size) := Lib.hid (Nat.lt_of_lt_of_le HZ2.out hb3.size)
  replace HROW := Lib.hid ((hb3.block w.heap.size HZ2.out).trans HROW.out)
  clear hb3 HB2 HZ2
  have c0 : w3.cell? ⟨w.heap.size, 0, none⟩ = some (.bool f) := (cell_of_row _ _ _ _ _ _ HROW.out).trans rfl
  have c1 : w3.cell? ⟨w.heap.size, 1, none⟩ = some (.bool wl) := (cell_of_row _ _ _ _ _ _ HROW.out).trans rfl
  have c2 : w3.cell? ⟨w.heap.size, 2, none⟩ = some (.string a) := (cell_of_row _ _ _ _ _ _ HROW.out).trans rfl
  have c3 : w3.cell? ⟨w.heap.size, 3, none⟩ = some (.string b) := (cell_of_row _ _ _ _ _ _ HROW.out).trans rfl
  cases B with
  | false =>
    clear hB
    go_wp2
    go_ret
    exact ⟨rfl, HB3.out⟩
  | true =>
  have HOK : Hid (RsOk wl a b c d) := Lib.hid (hB.mp rfl)
  clear hB
  cases wl with
  | false =>
    go_wp2
    go_ret
    exact ⟨rfl, HB3.out⟩
  | true =>
  cases f with
  | true =>
    go_wp2
    go_ret
    exact ⟨rfl, HB3.out⟩
  | false =>
  have HSD := Lib.hid (fun w => IsSpecSide_any p w (by omega))
  go_wp2_with fail
  with_reducible refine (HSD.out _).mono ?_
  rintro e w' ⟨B, rfl, hB, rfl⟩
  cases B with
  | false =>
    clear hB
    go_wp2
    go_ret
    exact ⟨rfl, HB3.out⟩
  | true =>
  have HP : Hid (IsSide p) := Lib.hid (hB.mp rfl)
  clear hB
  obtain ⟨t, ht⟩ : ∃ t, t = rsText false true a b c d := ⟨_, rfl⟩
  obtain ⟨X, hX⟩ : ∃ X, X = nb a ++ 42 :: nb b := ⟨_, rfl⟩
  obtain ⟨Y, hY⟩ : ∃ Y, Y = nb c ++ 42 :: nb d := ⟨_, rfl⟩
  have HSP : Hid (Spec1 t X Y) := Lib.hid (by rw [ht, hX, hY]; exact text_spec1 HOK.out)
  have HXN : Hid (X ≠ []) := Lib.hid (by rw [hX]; simp)
  have HYN : Hid (Y ≠ []) := Lib.hid (by rw [hY]; simp)
  have HT43 : Hid (bx t 0 = 43 ↔ false = true) := Lib.hid (by rw [ht]; exact text_force HOK.out)
  have HTX := Lib.hid (fun w => RefspecText_any false true a b c d w HOK.out.1.1 HOK.out.2.1.1 HOK.out.2.2.1.1 HOK.out.2.2.2.1.1)
  rw [← ht] at HTX
  have HX := Lib.hid hX; have HY := Lib.hid hY
  clear ht hX hY
  have sa := HOK.out.1.1; have sb := HOK.out.2.1.1; have sp := HP.out.1
  have z1 : (a ++ p).size = a.size + p.size := ByteArray.size_append
  have n1 : ¬ 9223372036854775807 < a.size + p.size := by omega
  have n2 : ¬ 9223372036854775807 < a.size + p.size + b.size := by omega
  go_wp2_with (refine wpList_load_row rfl 23 (.tmp 2) rfl w.heap.size rfl 23 #[.bool false, .bool true, .string a, .string b, .string c, .string d] (0, 0) _ HROW.out rsKind rfl rsSize ?_)
  obtain ⟨nm, hnm⟩ : ∃ nm, nm = a ++ p ++ b := ⟨_, rfl⟩
  rw [← hnm]
  have hns : nm.size ≤ 1000 := by rw [hnm, ByteArray.size_append, z1]; omega
  have HNM : Hid (nb nm = nb a ++ (nb p ++ nb b)) := Lib.hid (by rw [hnm, nb_append, nb_append, List.append_assoc])
  clear hnm z1 n1 n2
  with_reducible refine (HTX.out _).mono ?_
  rintro e w4 ⟨rfl, hb4⟩
  have HB4 : Hid (Below w.heap.size w w4) := Lib.hid (HB3.out.trans (hb4.mono HB3.out.size))
  have HZ4 : Hid (w.heap.size < w4.heap.size) := Lib.hid (Nat.lt_of_lt_of_le HZ3.out hb4.size)
  replace HROW := Lib.hid ((hb4.block w.heap.size HZ3.out).trans HROW.out)
  clear hb4 HB3 HZ3 c0 c1 c2 c3
  have h42s : ¬ sideC 42 := by unfold sideC; omega
  have HSM := Lib.hid (fun w => SpecMatchWild_any t nm X Y (nb a) (nb b) (nb c) (nb d) (nb p) false w HSP.out HXN.out HT43.out HX.out (side_no HOK.out.1 h42s) HY.out (side_no HOK.out.2.2.1 h42s) HNM.out hns)
  go_wp2_with fail
  with_reducible refine (HSM.out _).mono ?_
  rintro e w5 ⟨r, rfl, hr, hb5⟩
  have HR := Lib.hid hr
  have HB5 : Hid (Below w.heap.size w w5) := Lib.hid (HB4.out.trans (hb5.mono HB4.out.size))
  have HZ5 : Hid (w.heap.size < w5.heap.size) := Lib.hid (Nat.lt_of_lt_of_le HZ4.out hb5.size)
  replace HROW := Lib.hid ((hb5.block w.heap.size HZ4.out).trans HROW.out)
  clear hr hb5 HB4 HZ4 HSM
  go_wp2_with (refine wpList_load_row rfl 23 (.tmp 2) rfl w.heap.size rfl 23 #[.bool false, .bool true, .string a, .string b, .string c, .string d] (0, 0) _ HROW.out rsKind rfl rsSize ?_)
  with_reducible refine (HTX.out _).mono ?_
  rintro e w6 ⟨rfl, hb6⟩
  have HB6 : Hid (Below w.heap.size w w6) := Lib.hid (HB5.out.trans (hb6.mono HB5.out.size))
  clear hb6 HB5 HZ5 HROW HTX
  have HSO := Lib.hid (fun w => SpecOf_any t X Y false w HSP.out HXN.out HT43.out)
  go_wp2_with fail
  with_reducible refine (HSO.out _).mono ?_
  rintro e w7 ⟨src, rev, eb, wb, rfl, hsrc, hrev, hwb, hb7⟩
  have HB7 : Hid (Below w.heap.size w w7) := Lib.hid (HB6.out.trans (hb7.mono HB6.out.size))
  have HREV := Lib.hid hrev
  clear hsrc hrev hwb hb7 HB6 HSO
  go_wp2_with fail
  generalize hW : w7.alloc _ = W8
  have HB8 : Hid (Below w.heap.size w W8) := Lib.hid (by subst hW; exact HB7.out.alloc HB7.out.size _)
  clear hW
  have HBK : Hid (Spec1 rev Y X) := Lib.hid (HSP.out.back HXN.out HREV.out)
  have HR43 : Hid (bx rev 0 = 43 ↔ false = true) := Lib.hid ⟨fun e => absurd e (head_no43 (R := (42 :: nb d) ++ 58 :: X) HOK.out.2.2.1 HOK.out.2.2.2.2.2.2 (by rw [HREV.out, HY.out]; simp)), fun e => by cases e⟩
  have sc := side_len HOK.out.2.2.1; have sd := side_len HOK.out.2.2.2.1; have sp2 := side_len HP.out
  have hrs : r.size ≤ 1000 := by rw [← nb_length, HR.out, List.length_append, List.length_append]; omega
  clear sc sd sp2
  have HSM := Lib.hid (fun w => SpecMatchWild_any rev r Y X (nb c) (nb d) (nb a) (nb b) (nb p) false w HBK.out HYN.out HR43.out HY.out (side_no HOK.out.2.2.1 h42s) HX.out (side_no HOK.out.1 h42s) HR.out hrs)
  with_reducible refine (HSM.out _).mono ?_
  rintro e w9 ⟨r2, rfl, hr2, hb9⟩
  have hback : r2 = nm := nb_inj (hr2.trans HNM.out.symm)
  subst hback
  have HB9 : Hid (Below w.heap.size w w9) := Lib.hid (HB8.out.trans (hb9.mono HB8.out.size))
  clear hr2 hb9 HB8 HSM
  have heq : (r2.toList == r2.toList) = true := by rw [beq_str2]; simp
  go_wp2_with fail
  with_reducible refine (gitAwake_any _).mono ?_
  rintro e w10 ⟨rfl, hb10⟩
  have HB10 : Hid (Below w.heap.size w w10) := Lib.hid (HB9.out.trans (hb10.mono HB9.out.size))
  clear hb10
  go_wp2
  go_ret
  exact ⟨rfl, HB10.out⟩
end Go.Proofs.YtnhegjjegamdfaaFmt
