/- FnRefspec. -/
import Derived.Test.YtnhegjjegamdfaaFmtRgZ
import Derived.Test.YtnhegjjegamdfaaFmtAwakeR
namespace Go.Proofs.YtnhegjjegamdfaaFmt
open Go.RowKit
set_option linter.unusedSimpArgs false
set_option linter.unusedVariables false

theorem bool_same {B C : Bool} {Q : Prop} (h : B = true ↔ Q) (h2 : C = true ↔ Q) : B = C := by rw [Bool.eq_iff_iff, h, h2]
theorem two_strs {W : World} {g : Nat} {t : ByteArray} {T : TypeId} {fr : Nat × Nat} (h : W.heap[g]? = some (.cells #[.string t, .string t] T fr)) : Strs W (some ⟨g, 0, none⟩) 2 (fun _ => t) := by
  intro i hi
  refine ⟨g, 0, rfl, (Array.getElem?_eq_some_iff.1 h).1, ?_⟩
  rw [cell_of_row _ _ _ _ _ _ h]
  match i, hi with
  | 0, _ => rfl
  | 1, _ => rfl
set_option maxRecDepth 100000 in
set_option maxHeartbeats 8000000 in
theorem lawRefspec_any (f wl : Bool) (a b c d p : ByteArray) (w : World) :
    Calls Tryf.prog 4 #[.agg #[.bool f, .bool wl, .string a, .string b, .string c, .string d], .string p] w fun e w' => e = .returned (.bool true) ∧ Below w.heap.size w w' := by
  have HF := Lib.hid (fun w => fits8_any f wl a b c d w)
  by_cases h1 : (2147483647 : Int) < p.size
  · go_enter Tryf.func4, Tryf.ntmps4
    go_wp2_with fail
    generalize hW : w.alloc _ = W1
    obtain ⟨HR1, HB1, HZ1⟩ := alloc_row hW
    clear hW
    go_wp2_with (refine wpList_load_row rfl 23 (.tmp 2) rfl w.heap.size rfl 23 #[.bool f, .bool wl, .string a, .string b, .string c, .string d] (0, 0) _ HR1.out rsKind rfl rsSize ?_)
    with_reducible refine (HF.out _).mono ?_
    rintro e w2 ⟨B, rfl, hB, hb2⟩
    have HB2 : Hid (Below w.heap.size w w2) := Lib.hid (HB1.out.trans (hb2.mono HB1.out.size))
    clear hB hb2
    cases B with
    | false =>
      go_wp2
      go_ret
      exact ⟨rfl, HB2.out⟩
    | true =>
      go_wp2
      go_ret
      exact ⟨rfl, HB2.out⟩
  have h1i : (p.size : Int) ≤ 2147483647 := by omega
  clear h1
  go_enter Tryf.func4, Tryf.ntmps4
  go_wp2_with fail
  generalize hW : w.alloc _ = w1
  obtain ⟨HROW, HB1, HZ1⟩ := alloc_row hW
  clear hW
  go_wp2_with (refine wpList_load_row rfl 23 (.tmp 2) rfl w.heap.size rfl 23 #[.bool f, .bool wl, .string a, .string b, .string c, .string d] (0, 0) _ HROW.out rsKind rfl rsSize ?_)
  with_reducible refine (HF.out _).mono ?_
  rintro e w2 ⟨B, rfl, hB, hb2⟩
  have HB2 : Hid (Below w.heap.size w w2) := Lib.hid (HB1.out.trans (hb2.mono HB1.out.size))
  have HZ2 : Hid (w.heap.size < w2.heap.size) := Lib.hid (Nat.lt_of_lt_of_le HZ1.out hb2.size)
  replace HROW := Lib.hid ((hb2.block w.heap.size HZ1.out).trans HROW.out)
  clear hb2 HB1 HZ1
  cases B with
  | false =>
    clear hB
    go_wp2
    go_ret
    exact ⟨rfl, HB2.out⟩
  | true =>
  have HFIT : Hid (Fits8 a b c d) := Lib.hid (hB.mp rfl)
  clear hB
  have HIS := Lib.hid (fun w => IsRefspec_any f wl a b c d w HFIT.out)
  go_wp2_with (refine wpList_load_row rfl 23 (.tmp 2) rfl w.heap.size rfl 23 #[.bool f, .bool wl, .string a, .string b, .string c, .string d] (0, 0) _ HROW.out rsKind rfl rsSize ?_)
  with_reducible refine (HIS.out _).mono ?_
  rintro e w3 ⟨B, rfl, hB, hb3⟩
  have HB3 : Hid (Below w.heap.size w w3) := Lib.hid (HB2.out.trans (hb3.mono HB2.out.size))
  have HZ3 : Hid (w.heap.size < w3.heap.size) := Lib.hid (Nat.lt_of_lt_of_le HZ2.out hb3.size)
  replace HROW := Lib.hid ((hb3.block w.heap.size HZ2.out).trans HROW.out)
  cases B with
  | false =>
    clear hB
    go_wp2
    go_ret
    exact ⟨rfl, HB3.out⟩
  | true =>
  have HOK : Hid (RsOk wl a b c d) := Lib.hid (hB.mp rfl)
  clear hB
  have HSD := Lib.hid (fun w => IsSpecSide_any p w (by omega))
  go_wp2_with fail
  with_reducible refine (HSD.out _).mono ?_
  rintro e w' ⟨B, rfl, hB, rfl⟩
  cases B with
  | false =>
    clear hB
    go_wp2
    go_ret
    exact ⟨rfl, HB3.out⟩
  | true =>
  have HP : Hid (IsSide p) := Lib.hid (hB.mp rfl)
  clear hB
  by_cases hp0 : p.size = 0
  · have he := isEmpty_str p hp0
    go_wp2
    go_ret
    exact ⟨rfl, HB3.out⟩
  have he := isEmpty_str_not p hp0
  have hps : p.size ≤ 1000 := by have := HP.out.1; omega
  have sa := HOK.out.1.1; have sb := HOK.out.2.1.1; have sc := HOK.out.2.2.1.1; have sd := HOK.out.2.2.2.1.1
  obtain ⟨t, ht⟩ : ∃ t, t = rsText f wl a b c d := ⟨_, rfl⟩
  obtain ⟨X, hX⟩ : ∃ X, X = foreN f ++ sideN (nb a) (nb b) wl := ⟨_, rfl⟩
  obtain ⟨Y, hY⟩ : ∃ Y, Y = sideN (nb c) (nb d) wl := ⟨_, rfl⟩
  obtain ⟨dl, hdl⟩ : ∃ dl, dl = toN wl (nb a) (nb b) (nb c) (nb d) (nb p) := ⟨_, rfl⟩
  obtain ⟨Q, hQ⟩ : ∃ Q, Q = MatchN wl (nb a) (nb b) (nb p) := ⟨_, rfl⟩
  have HSP : Hid (Spec1 t X Y) := Lib.hid (by rw [ht, hX, hY]; exact text_spec1 HOK.out)
  have HXN : Hid (X ≠ []) := Lib.hid (by rw [hX]; exact text_some HOK.out)
  have HT43 : Hid (bx t 0 = 43 ↔ f = true) := Lib.hid (by rw [ht]; exact text_force HOK.out)
  have HTX := Lib.hid (fun w => RefspecText_any f wl a b c d w sa sb sc sd)
  have HMT := Lib.hid (fun w => Match_any (f := f) HOK.out p w hps)
  have HSM := Lib.hid (fun w => SpecMatch_any (f := f) HOK.out p w hps)
  have HRM := Lib.hid (fun w => RefspecMatch_any f wl a b c d p w sa sb hps)
  have HRT := Lib.hid (fun (hm : MatchN wl (nb a) (nb b) (nb p)) w => RefspecTo_any f wl a b c d p w sa sb sc sd hps hm)
  have HSRC : Hid (X.drop (if f = true then 1 else 0) = sideN (nb a) (nb b) wl) := Lib.hid (by rw [hX, drop_fore])
  have HWB : Hid (Has (nb t) [42] ↔ wl = true) := Lib.hid (by
    rw [ht, nb_text]
    cases wl with
    | true => exact ⟨fun _ => rfl, fun _ => (mem_has _ 42).mp (by simp [sideN])⟩
    | false =>
      refine ⟨fun hh => absurd hh ?_, fun e => by cases e⟩
      rw [← nb_text]
      exact no_star (text_spec1 HOK.out) (by rw [fore_star, sideN_cnt HOK.out.1 HOK.out.2.1]; rfl))
  rw [← ht] at HTX HMT HSM
  rw [← hQ] at HMT HSM HRM HRT
  rw [← hdl] at HSM HRT
  clear ht hX hY hdl hQ
  cases wl with
  | true =>
    go_wp2_with (refine wpList_load_row rfl 23 (.tmp 2) rfl w.heap.size rfl 23 #[.bool f, .bool true, .string a, .string b, .string c, .string d] (0, 0) _ HROW.out rsKind rfl rsSize ?_)
    with_reducible refine (HTX.out _).mono ?_
    rintro e w4 ⟨rfl, hb4⟩
    have HB4 : Hid (Below w.heap.size w w4) := Lib.hid (HB3.out.trans (hb4.mono HB3.out.size))
    have HZ4 : Hid (w.heap.size < w4.heap.size) := Lib.hid (Nat.lt_of_lt_of_le HZ3.out hb4.size)
    replace HROW := Lib.hid ((hb4.block w.heap.size HZ3.out).trans HROW.out)
    clear hb4 HB3 HZ3
    have HSO := Lib.hid (fun w => SpecOf_any t X Y f w HSP.out HXN.out HT43.out)
    go_wp2_with fail
    with_reducible refine (HSO.out _).mono ?_
    rintro e w5 ⟨src, rev, eb, wb, rfl, hsrc, hrev, hwb, hb5⟩
    have HB5 : Hid (Below w.heap.size w w5) := Lib.hid (HB4.out.trans (hb5.mono HB4.out.size))
    have HZ5 : Hid (w.heap.size < w5.heap.size) := Lib.hid (Nat.lt_of_lt_of_le HZ4.out hb5.size)
    replace HROW := Lib.hid ((hb5.block w.heap.size HZ4.out).trans HROW.out)
    clear hb5 HB4 HZ4
    have hwb2 : true = wb := (hwb.mpr (HWB.out.mpr (by trivial))).symm
    subst hwb2
    have hsrc2 : a ++ (⟨#[42]⟩ ++ b) = src := nb_inj (by rw [hsrc, HSRC.out, nb_append, nb_append]; rfl)
    have HS2 := Lib.hid hsrc2
    clear hsrc hrev hwb HSO hsrc2
    go_upto_region 7 with (fail)
    generalize hW : w5.alloc _ = w6
    obtain ⟨HX, HBX, HZX⟩ := alloc_row hW
    have hb6 := HBX.out
    clear hW HBX HZX
    have HB6 : Hid (Below w.heap.size w w6) := Lib.hid (HB5.out.trans (hb6.mono HB5.out.size))
    have HZ6 : Hid (w.heap.size < w6.heap.size) := Lib.hid (Nat.lt_of_lt_of_le HZ5.out hb6.size)
    replace HROW := Lib.hid ((hb6.block w.heap.size HZ5.out).trans HROW.out)
    clear hb6 HB5 HZ5
    have c0 : w6.cell? ⟨w.heap.size, 0, none⟩ = some (.bool f) := (cell_of_row _ _ _ _ _ _ HROW.out).trans rfl
    have c1 : w6.cell? ⟨w.heap.size, 1, none⟩ = some (.bool true) := (cell_of_row _ _ _ _ _ _ HROW.out).trans rfl
    have c2 : w6.cell? ⟨w.heap.size, 2, none⟩ = some (.string a) := (cell_of_row _ _ _ _ _ _ HROW.out).trans rfl
    have c3 : w6.cell? ⟨w.heap.size, 3, none⟩ = some (.string b) := (cell_of_row _ _ _ _ _ _ HROW.out).trans rfl
    have x0 : w6.cell? ⟨w5.heap.size, 0, none⟩ = some (.string ⟨#[]⟩) := (cell_of_row _ _ _ _ _ _ HX.out).trans rfl
    have x1 : w6.cell? ⟨w5.heap.size, 1, none⟩ = some (.string src) := (cell_of_row _ _ _ _ _ _ HX.out).trans rfl
    have x3 : w6.cell? ⟨w5.heap.size, 3, none⟩ = some (.bool f) := (cell_of_row _ _ _ _ _ _ HX.out).trans rfl
    have x4 : w6.cell? ⟨w5.heap.size, 4, none⟩ = some (.bool false) := (cell_of_row _ _ _ _ _ _ HX.out).trans rfl
    have x6 : w6.cell? ⟨w5.heap.size, 6, none⟩ = some (.bool true) := (cell_of_row _ _ _ _ _ _ HX.out).trans rfl
    have z1 : ((⟨#[42]⟩ : ByteArray) ++ b).size = 1 + b.size := by rw [ByteArray.size_append]; rfl
    have n1 : ¬ 9223372036854775807 < 1 + b.size := by omega
    have n2 : ¬ 9223372036854775807 < a.size + (1 + b.size) := by omega
    go_upto_region 10 with (fail)
    rw [HS2.out]
    clear z1 n1 n2
    have heq : (src.toList == src.toList) = true := by rw [beq_str2]; simp
    have hff : (f == f) = true := by simp
    go_wp2_with (refine wpList_load_row rfl 23 (.tmp 2) rfl w.heap.size rfl 23 #[.bool f, .bool true, .string a, .string b, .string c, .string d] (0, 0) _ HROW.out rsKind rfl rsSize ?_)
    clear c0 c1 c2 c3 x0 x1 x3 x4 x6 HX
    with_reducible refine (HRM.out _).mono ?_
    rintro e w7 ⟨q, B, rfl, hB, hb7⟩
    have HB7 : Hid (Below w.heap.size w w7) := Lib.hid (HB6.out.trans (hb7.mono HB6.out.size))
    have HZ7 : Hid (w.heap.size < w7.heap.size) := Lib.hid (Nat.lt_of_lt_of_le HZ6.out hb7.size)
    replace HROW := Lib.hid ((hb7.block w.heap.size HZ6.out).trans HROW.out)
    clear hb7 HB6 HZ6
    go_wp2_with fail
    with_reducible refine (HSM.out _).mono ?_
    rintro e w8 ⟨B2, r, rfl, hB2, hr, hb8⟩
    obtain rfl : B = B2 := bool_same hB hB2
    have HR := Lib.hid hr
    have HB8 : Hid (Below w.heap.size w w8) := Lib.hid (HB7.out.trans (hb8.mono HB7.out.size))
    have HZ8 : Hid (w.heap.size < w8.heap.size) := Lib.hid (Nat.lt_of_lt_of_le HZ7.out hb8.size)
    replace HROW := Lib.hid ((hb8.block w.heap.size HZ7.out).trans HROW.out)
    clear hb8 HB7 HZ7
    have HQB := Lib.hid hB
    clear hB hB2 hr
    cases B with
    | false =>
    go_upto_region 16 with (fail)
    repeat (first | go_values | go_skip | go_guarded | go_step | go_upon)
    generalize hW : w8.alloc _ = w10
    obtain ⟨HA, HBA, HZA⟩ := alloc_row hW
    have HB10 : Hid (Below w.heap.size w w10) := Lib.hid (HB8.out.trans (HBA.out.mono HB8.out.size))
    clear hW HBA HZA HB8 HZ8 HROW
    with_reducible refine (SpecsMatch_any _ 2 2 t p X Y Q _ (by decide) (two_strs HA.out) HSP.out HMT.out).mono ?_
    rintro e w11 ⟨B3, rfl, hB3, hb11⟩
    have h3 : false = B3 := by rw [Bool.eq_iff_iff, hB3]; refine Iff.trans ?_ (show (0 < 2 ∧ Q) ↔ (0 < 2 ∧ Q) from Iff.rfl); refine Iff.trans (show (false = true) ↔ Q by simpa using HQB.out) ?_; exact ⟨fun h => ⟨by decide, h⟩, fun h => h.2⟩
    subst h3
    have HB11 : Hid (Below w.heap.size w w11) := Lib.hid (HB10.out.trans (hb11.mono HB10.out.size))
    clear hB3 hb11 HB10 HQB HA HR HSM HRM HRT HSP HXN HT43 HTX HMT HSRC HWB HS2 HOK HIS HFIT HF HSD HP sa sb sc sd hps hp0 he hff heq
    go_wp2_with fail
    with_reducible refine (gitAwake_any _).mono ?_
    rintro e w12 ⟨rfl, hb12⟩
    have HB12 : Hid (Below w.heap.size w w12) := Lib.hid (HB11.out.trans (hb12.mono HB11.out.size))
    clear hb12
    go_wp2
    go_ret
    exact ⟨rfl, HB12.out⟩
    | true =>
    have HTO := Lib.hid (HRT.out (HQB.out.mp (by trivial)))
    have c0 : w8.cell? ⟨w.heap.size, 0, none⟩ = some (.bool f) := (cell_of_row _ _ _ _ _ _ HROW.out).trans rfl
    have c1 : w8.cell? ⟨w.heap.size, 1, none⟩ = some (.bool true) := (cell_of_row _ _ _ _ _ _ HROW.out).trans rfl
    have c2 : w8.cell? ⟨w.heap.size, 2, none⟩ = some (.string a) := (cell_of_row _ _ _ _ _ _ HROW.out).trans rfl
    have c3 : w8.cell? ⟨w.heap.size, 3, none⟩ = some (.string b) := (cell_of_row _ _ _ _ _ _ HROW.out).trans rfl
    have c4 : w8.cell? ⟨w.heap.size, 4, none⟩ = some (.string c) := (cell_of_row _ _ _ _ _ _ HROW.out).trans rfl
    have c5 : w8.cell? ⟨w.heap.size, 5, none⟩ = some (.string d) := (cell_of_row _ _ _ _ _ _ HROW.out).trans rfl
    go_wp2_with fail
    clear c0 c1 c2 c3 c4 c5
    with_reducible refine (HTO.out _).mono ?_
    rintro e w9 ⟨r2, rfl, hr2, hb9⟩
    obtain rfl : r = r2 := nb_inj ((HR.out (HQB.out.mp (by trivial))).trans hr2.symm)
    have HB9 : Hid (Below w.heap.size w w9) := Lib.hid (HB8.out.trans (hb9.mono HB8.out.size))
    have HZ9 : Hid (w.heap.size < w9.heap.size) := Lib.hid (Nat.lt_of_lt_of_le HZ8.out hb9.size)
    replace HROW := Lib.hid ((hb9.block w.heap.size HZ8.out).trans HROW.out)
    clear hb9 HB8 HZ8
    have hrr : (r.toList == r.toList) = true := by rw [beq_str2]; simp
    clear hr2
    go_upto_region 16 with (fail)
    repeat (first | go_values | go_skip | go_guarded | go_step | go_upon)
    generalize hW : w9.alloc _ = w10
    obtain ⟨HA, HBA, HZA⟩ := alloc_row hW
    have HB10 : Hid (Below w.heap.size w w10) := Lib.hid (HB9.out.trans (HBA.out.mono HB9.out.size))
    clear hW HBA HZA HB9 HZ9 HROW
    with_reducible refine (SpecsMatch_any _ 2 2 t p X Y Q _ (by decide) (two_strs HA.out) HSP.out HMT.out).mono ?_
    rintro e w11 ⟨B3, rfl, hB3, hb11⟩
    have h3 : true = B3 := by rw [Bool.eq_iff_iff, hB3]; refine Iff.trans ?_ (show (0 < 2 ∧ Q) ↔ (0 < 2 ∧ Q) from Iff.rfl); refine Iff.trans (show (true = true) ↔ Q by simpa using HQB.out) ?_; exact ⟨fun h => ⟨by decide, h⟩, fun h => h.2⟩
    subst h3
    have HB11 : Hid (Below w.heap.size w w11) := Lib.hid (HB10.out.trans (hb11.mono HB10.out.size))
    clear hB3 hb11 HB10 HQB HA HR HSM HRM HRT HSP HXN HT43 HTX HMT HSRC HWB HS2 HOK HIS HFIT HF HSD HP sa sb sc sd hps hp0 he hff heq
    go_wp2_with fail
    with_reducible refine (gitAwake_any _).mono ?_
    rintro e w12 ⟨rfl, hb12⟩
    have HB12 : Hid (Below w.heap.size w w12) := Lib.hid (HB11.out.trans (hb12.mono HB11.out.size))
    clear hb12
    go_wp2
    go_ret
    exact ⟨rfl, HB12.out⟩
  | false =>
    go_wp2_with (refine wpList_load_row rfl 23 (.tmp 2) rfl w.heap.size rfl 23 #[.bool f, .bool false, .string a, .string b, .string c, .string d] (0, 0) _ HROW.out rsKind rfl rsSize ?_)
    with_reducible refine (HTX.out _).mono ?_
    rintro e w4 ⟨rfl, hb4⟩
    have HB4 : Hid (Below w.heap.size w w4) := Lib.hid (HB3.out.trans (hb4.mono HB3.out.size))
    have HZ4 : Hid (w.heap.size < w4.heap.size) := Lib.hid (Nat.lt_of_lt_of_le HZ3.out hb4.size)
    replace HROW := Lib.hid ((hb4.block w.heap.size HZ3.out).trans HROW.out)
    clear hb4 HB3 HZ3
    have HSO := Lib.hid (fun w => SpecOf_any t X Y f w HSP.out HXN.out HT43.out)
    go_wp2_with fail
    with_reducible refine (HSO.out _).mono ?_
    rintro e w5 ⟨src, rev, eb, wb, rfl, hsrc, hrev, hwb, hb5⟩
    have HB5 : Hid (Below w.heap.size w w5) := Lib.hid (HB4.out.trans (hb5.mono HB4.out.size))
    have HZ5 : Hid (w.heap.size < w5.heap.size) := Lib.hid (Nat.lt_of_lt_of_le HZ4.out hb5.size)
    replace HROW := Lib.hid ((hb5.block w.heap.size HZ4.out).trans HROW.out)
    clear hb5 HB4 HZ4
    have hwb2 : false = wb := by cases wb with | false => rfl | true => exact absurd (HWB.out.mp (hwb.mp rfl)) (by simp)
    subst hwb2
    have hsrc2 : a = src := nb_inj (by rw [hsrc, HSRC.out]; rfl)
    have HS2 := Lib.hid hsrc2
    clear hsrc hrev hwb HSO hsrc2
    go_upto_region 7 with (fail)
    generalize hW : w5.alloc _ = w6
    obtain ⟨HX, HBX, HZX⟩ := alloc_row hW
    have hb6 := HBX.out
    clear hW HBX HZX
    have HB6 : Hid (Below w.heap.size w w6) := Lib.hid (HB5.out.trans (hb6.mono HB5.out.size))
    have HZ6 : Hid (w.heap.size < w6.heap.size) := Lib.hid (Nat.lt_of_lt_of_le HZ5.out hb6.size)
    replace HROW := Lib.hid ((hb6.block w.heap.size HZ5.out).trans HROW.out)
    clear hb6 HB5 HZ5
    have c0 : w6.cell? ⟨w.heap.size, 0, none⟩ = some (.bool f) := (cell_of_row _ _ _ _ _ _ HROW.out).trans rfl
    have c1 : w6.cell? ⟨w.heap.size, 1, none⟩ = some (.bool false) := (cell_of_row _ _ _ _ _ _ HROW.out).trans rfl
    have c2 : w6.cell? ⟨w.heap.size, 2, none⟩ = some (.string a) := (cell_of_row _ _ _ _ _ _ HROW.out).trans rfl
    have c3 : w6.cell? ⟨w.heap.size, 3, none⟩ = some (.string b) := (cell_of_row _ _ _ _ _ _ HROW.out).trans rfl
    have x0 : w6.cell? ⟨w5.heap.size, 0, none⟩ = some (.string ⟨#[]⟩) := (cell_of_row _ _ _ _ _ _ HX.out).trans rfl
    have x1 : w6.cell? ⟨w5.heap.size, 1, none⟩ = some (.string src) := (cell_of_row _ _ _ _ _ _ HX.out).trans rfl
    have x3 : w6.cell? ⟨w5.heap.size, 3, none⟩ = some (.bool f) := (cell_of_row _ _ _ _ _ _ HX.out).trans rfl
    have x4 : w6.cell? ⟨w5.heap.size, 4, none⟩ = some (.bool false) := (cell_of_row _ _ _ _ _ _ HX.out).trans rfl
    have x6 : w6.cell? ⟨w5.heap.size, 6, none⟩ = some (.bool false) := (cell_of_row _ _ _ _ _ _ HX.out).trans rfl
    go_upto_region 10 with (fail)
    obtain rfl : a = src := HS2.out
    have heq : (a.toList == a.toList) = true := by rw [beq_str2]; simp
    have hff : (f == f) = true := by simp
    go_wp2_with (refine wpList_load_row rfl 23 (.tmp 2) rfl w.heap.size rfl 23 #[.bool f, .bool false, .string a, .string b, .string c, .string d] (0, 0) _ HROW.out rsKind rfl rsSize ?_)
    clear c0 c1 c2 c3 x0 x1 x3 x4 x6 HX
    with_reducible refine (HRM.out _).mono ?_
    rintro e w7 ⟨q, B, rfl, hB, hb7⟩
    have HB7 : Hid (Below w.heap.size w w7) := Lib.hid (HB6.out.trans (hb7.mono HB6.out.size))
    have HZ7 : Hid (w.heap.size < w7.heap.size) := Lib.hid (Nat.lt_of_lt_of_le HZ6.out hb7.size)
    replace HROW := Lib.hid ((hb7.block w.heap.size HZ6.out).trans HROW.out)
    clear hb7 HB6 HZ6
    go_wp2_with fail
    with_reducible refine (HSM.out _).mono ?_
    rintro e w8 ⟨B2, r, rfl, hB2, hr, hb8⟩
    obtain rfl : B = B2 := bool_same hB hB2
    have HR := Lib.hid hr
    have HB8 : Hid (Below w.heap.size w w8) := Lib.hid (HB7.out.trans (hb8.mono HB7.out.size))
    have HZ8 : Hid (w.heap.size < w8.heap.size) := Lib.hid (Nat.lt_of_lt_of_le HZ7.out hb8.size)
    replace HROW := Lib.hid ((hb8.block w.heap.size HZ7.out).trans HROW.out)
    clear hb8 HB7 HZ7
    have HQB := Lib.hid hB
    clear hB hB2 hr
    cases B with
    | false =>
    go_upto_region 16 with (fail)
    repeat (first | go_values | go_skip | go_guarded | go_step | go_upon)
    generalize hW : w8.alloc _ = w10
    obtain ⟨HA, HBA, HZA⟩ := alloc_row hW
    have HB10 : Hid (Below w.heap.size w w10) := Lib.hid (HB8.out.trans (HBA.out.mono HB8.out.size))
    clear hW HBA HZA HB8 HZ8 HROW
    with_reducible refine (SpecsMatch_any _ 2 2 t p X Y Q _ (by decide) (two_strs HA.out) HSP.out HMT.out).mono ?_
    rintro e w11 ⟨B3, rfl, hB3, hb11⟩
    have h3 : false = B3 := by rw [Bool.eq_iff_iff, hB3]; refine Iff.trans ?_ (show (0 < 2 ∧ Q) ↔ (0 < 2 ∧ Q) from Iff.rfl); refine Iff.trans (show (false = true) ↔ Q by simpa using HQB.out) ?_; exact ⟨fun h => ⟨by decide, h⟩, fun h => h.2⟩
    subst h3
    have HB11 : Hid (Below w.heap.size w w11) := Lib.hid (HB10.out.trans (hb11.mono HB10.out.size))
    clear hB3 hb11 HB10 HQB HA HR HSM HRM HRT HSP HXN HT43 HTX HMT HSRC HWB HS2 HOK HIS HFIT HF HSD HP sa sb sc sd hps hp0 he hff heq
    go_wp2_with fail
    with_reducible refine (gitAwake_any _).mono ?_
    rintro e w12 ⟨rfl, hb12⟩
    have HB12 : Hid (Below w.heap.size w w12) := Lib.hid (HB11.out.trans (hb12.mono HB11.out.size))
    clear hb12
    go_wp2
    go_ret
    exact ⟨rfl, HB12.out⟩
    | true =>
    have HTO := Lib.hid (HRT.out (HQB.out.mp (by trivial)))
    have c0 : w8.cell? ⟨w.heap.size, 0, none⟩ = some (.bool f) := (cell_of_row _ _ _ _ _ _ HROW.out).trans rfl
    have c1 : w8.cell? ⟨w.heap.size, 1, none⟩ = some (.bool false) := (cell_of_row _ _ _ _ _ _ HROW.out).trans rfl
    have c2 : w8.cell? ⟨w.heap.size, 2, none⟩ = some (.string a) := (cell_of_row _ _ _ _ _ _ HROW.out).trans rfl
    have c3 : w8.cell? ⟨w.heap.size, 3, none⟩ = some (.string b) := (cell_of_row _ _ _ _ _ _ HROW.out).trans rfl
    have c4 : w8.cell? ⟨w.heap.size, 4, none⟩ = some (.string c) := (cell_of_row _ _ _ _ _ _ HROW.out).trans rfl
    have c5 : w8.cell? ⟨w.heap.size, 5, none⟩ = some (.string d) := (cell_of_row _ _ _ _ _ _ HROW.out).trans rfl
    go_wp2_with fail
    clear c0 c1 c2 c3 c4 c5
    with_reducible refine (HTO.out _).mono ?_
    rintro e w9 ⟨r2, rfl, hr2, hb9⟩
    obtain rfl : r = r2 := nb_inj ((HR.out (HQB.out.mp (by trivial))).trans hr2.symm)
    have HB9 : Hid (Below w.heap.size w w9) := Lib.hid (HB8.out.trans (hb9.mono HB8.out.size))
    have HZ9 : Hid (w.heap.size < w9.heap.size) := Lib.hid (Nat.lt_of_lt_of_le HZ8.out hb9.size)
    replace HROW := Lib.hid ((hb9.block w.heap.size HZ8.out).trans HROW.out)
    clear hb9 HB8 HZ8
    have hrr : (r.toList == r.toList) = true := by rw [beq_str2]; simp
    clear hr2
    go_upto_region 16 with (fail)
    repeat (first | go_values | go_skip | go_guarded | go_step | go_upon)
    generalize hW : w9.alloc _ = w10
    obtain ⟨HA, HBA, HZA⟩ := alloc_row hW
    have HB10 : Hid (Below w.heap.size w w10) := Lib.hid (HB9.out.trans (HBA.out.mono HB9.out.size))
    clear hW HBA HZA HB9 HZ9 HROW
    with_reducible refine (SpecsMatch_any _ 2 2 t p X Y Q _ (by decide) (two_strs HA.out) HSP.out HMT.out).mono ?_
    rintro e w11 ⟨B3, rfl, hB3, hb11⟩
    have h3 : true = B3 := by rw [Bool.eq_iff_iff, hB3]; refine Iff.trans ?_ (show (0 < 2 ∧ Q) ↔ (0 < 2 ∧ Q) from Iff.rfl); refine Iff.trans (show (true = true) ↔ Q by simpa using HQB.out) ?_; exact ⟨fun h => ⟨by decide, h⟩, fun h => h.2⟩
    subst h3
    have HB11 : Hid (Below w.heap.size w w11) := Lib.hid (HB10.out.trans (hb11.mono HB10.out.size))
    clear hB3 hb11 HB10 HQB HA HR HSM HRM HRT HSP HXN HT43 HTX HMT HSRC HWB HS2 HOK HIS HFIT HF HSD HP sa sb sc sd hps hp0 he hff heq
    go_wp2_with fail
    with_reducible refine (gitAwake_any _).mono ?_
    rintro e w12 ⟨rfl, hb12⟩
    have HB12 : Hid (Below w.heap.size w w12) := Lib.hid (HB11.out.trans (hb12.mono HB11.out.size))
    clear hb12
    go_wp2
    go_ret
    exact ⟨rfl, HB12.out⟩
end Go.Proofs.YtnhegjjegamdfaaFmt
