/- RefSpec.Dst of a wildcard. -/
import Derived.Test.YtnhegjjegamdfaaFmtRgG
namespace Go.Proofs.YtnhegjjegamdfaaFmt
open Go.RowKit
set_option linter.unusedSimpArgs false
set_option linter.unusedVariables false

theorem cut_left {r : ByteArray} {A B : List Nat} {n c : Nat} (h : nb r = A ++ c :: B) (hn : n = A.length) : nb (r.extract 0 n) = A := by
  rw [hn, nb_extract, List.drop_zero, Nat.sub_zero, h, List.take_left]
theorem cut_right {r : ByteArray} {A B : List Nat} {n c : Nat} (h : nb r = A ++ c :: B) (hn : n = A.length) : nb (r.extract (n + 1) r.size) = B := by
  rw [hn, nb_tail, h, show A ++ c :: B = (A ++ [c]) ++ B by simp, show A.length + 1 = (A ++ [c]).length by simp, List.drop_left]
theorem size_of_nb {r : ByteArray} {l : List Nat} (h : nb r = l) : r.size = l.length := by rw [← h, nb_length]
def DstPost (C D Q : List Nat) (w : World) (e : Ending) (w' : World) : Prop := ∃ r : ByteArray, e = .returned (.string r) ∧ nb r = C ++ (Q ++ D) ∧ Below w.heap.size w w'
set_option maxRecDepth 100000 in
set_option maxHeartbeats 2000000 in
theorem DstWild_any (t nm : ByteArray) (X Y A B C D Q : List Nat) (f : Bool) (w : World) (h : Spec1 t X Y) (hX : X ≠ []) (hf : bx t 0 = 43 ↔ f = true) (hAB : X.drop (if f = true then 1 else 0) = A ++ 42 :: B) (h42 : 42 ∉ A) (hCD : Y = C ++ 42 :: D) (h42c : 42 ∉ C) (hnm : nb nm = A ++ (Q ++ B)) (hns : nm.size ≤ 1000) :
    Calls Tryf.prog 17 #[.string t, .string nm] w (DstPost C D Q w) := by
  have hsm := h.small
  have HS := Lib.hid h
  have HSRC := Lib.hid (fun w => Src_any t X Y f w h hX hf)
  have HW : Hid (Has (nb t) [42]) := Lib.hid (by
    have hm : 42 ∈ X := List.mem_of_mem_drop (i := if f = true then 1 else 0) (by rw [hAB]; simp)
    rw [h.text]
    exact (mem_has _ 42).mp (List.mem_append_left _ hm))
  have hsz := h.size
  obtain ⟨n, hn⟩ : ∃ n, n = X.length := ⟨_, rfl⟩
  obtain ⟨na, hna⟩ : ∃ n, n = A.length := ⟨_, rfl⟩
  obtain ⟨nbb, hnb⟩ : ∃ n, n = B.length := ⟨_, rfl⟩
  obtain ⟨nc, hnc⟩ : ∃ n, n = C.length := ⟨_, rfl⟩
  obtain ⟨q, hq⟩ : ∃ n, n = A.length + Q.length := ⟨_, rfl⟩
  obtain ⟨R, hR⟩ : ∃ R, R = t.extract (n + 1) t.size := ⟨_, rfl⟩
  obtain ⟨M, hM⟩ : ∃ M, M = nm.extract na q := ⟨_, rfl⟩
  have HRY : Hid (nb R = C ++ 42 :: D) := Lib.hid (by rw [hR, hn, h.right, hCD])
  obtain ⟨C1, hC1⟩ : ∃ C1, C1 = R.extract 0 nc := ⟨_, rfl⟩
  obtain ⟨D1, hD1⟩ : ∃ D1, D1 = R.extract (nc + 1) R.size := ⟨_, rfl⟩
  have HC1 : Hid (nb C1 = C) := Lib.hid (by rw [hC1]; exact cut_left HRY.out hnc)
  have HD1 : Hid (nb D1 = D) := Lib.hid (by rw [hD1]; exact cut_right HRY.out hnc)
  have HM : Hid (nb M = Q) := Lib.hid (by
    rw [hM, hna, hq, nb_extract, hnm, List.drop_left, show A.length + Q.length - A.length = Q.length by omega, List.take_left])
  have hRz : R.size = nc + 1 + D.length := by rw [size_of_nb HRY.out, hnc]; simp; omega
  have hMz : M.size = Q.length := size_of_nb HM.out
  have hC1z : C1.size = nc := by rw [size_of_nb HC1.out, hnc]
  have hD1z : D1.size = D.length := size_of_nb HD1.out
  have hnz : nm.size = q + nbb := by rw [size_of_nb hnm, hq, hnb]; simp; omega
  have hRs : R.size ≤ 1000 := by rw [hR]; exact Nat.le_trans (extract_le _ _ _ _ (Nat.le_refl _)) hsm
  have HFACT : Hid (n = X.length ∧ na = A.length ∧ nbb = B.length ∧ nc = C.length ∧ q = A.length + Q.length ∧ R = t.extract (n + 1) t.size ∧ M = nm.extract na q ∧ C1 = R.extract 0 nc ∧ D1 = R.extract (nc + 1) R.size) := Lib.hid ⟨hn, hna, hnb, hnc, hq, hR, hM, hC1, hD1⟩
  have HAB := Lib.hid hAB; have H42 := Lib.hid h42; have H42C := Lib.hid h42c
  have b1 : (n : Int) + 1 ≤ t.size := by omega
  have b2 : (0 : Int) ≤ (n : Int) + 1 := by omega
  have b3 : (na : Int) ≤ q := by omega
  have b4 : (q : Int) ≤ nm.size := by omega
  have b5 : (0 : Int) ≤ na := by omega
  have b6 : (0 : Int) ≤ nc := by omega
  have b7 : (nc : Int) + 1 ≤ R.size := by omega
  have b8 : (nc : Int) ≤ R.size := by omega
  have e2 : (nm.size : Int) - (nbb : Int) = (q : Int) := by omega
  have b9 : q ≤ 1000 := by omega
  have b10 : nbb ≤ 1000 := by omega
  have b11 : M.size ≤ 1000 := by omega
  have b12 : C1.size ≤ 1000 := by omega
  have b13 : D1.size ≤ 1000 := by omega
  clear h hX hf hAB h42 hCD h42c hnm hn hna hnb hnc hq hR hM hC1 hD1 hRz hMz hC1z hD1z hnz hsz
  go_enter Tryf.func17, Tryf.ntmps17
  go_wp2_with fail
  with_reducible refine (zzIndex_any t ⟨#[58]⟩ _ (by omega) (by decide)).mono ?_
  rintro e w' ⟨r, rfl, hr, rfl⟩
  have hrn : r = (n : Nat) := by rw [HFACT.out.1]; exact idx_first (c := 58) HS.out.text HS.out.head hr
  subst hrn
  clear hr
  go_wp2_with fail
  rw [← HFACT.out.2.2.2.2.2.1]
  with_reducible refine (HSRC.out _).mono ?_
  rintro e w1 ⟨r1, rfl, hr1, hb1⟩
  have HB1 := Lib.hid hb1
  have HR1 : Hid (nb r1 = A ++ 42 :: B) := Lib.hid (by rw [hr1]; exact HAB.out)
  have hr1z : (r1.size : Int) - ((na : Int) + 1) = (nbb : Int) := by
    have := size_of_nb HR1.out
    have h1 := HFACT.out.2.1; have h2 := HFACT.out.2.2.1
    simp at this; omega
  have hr1s : r1.size ≤ 10000 := by omega
  clear hr1 hb1
  go_wp2_with fail
  with_reducible refine (IsWild_any t _ hsm).mono ?_
  rintro e w' ⟨T1, rfl, hT, rfl⟩
  have hT1 : T1 = true := hT.mpr HW.out
  subst hT1
  clear hT
  go_wp2_with fail
  with_reducible refine (nameStr_any nm _).mono ?_
  rintro e w2 ⟨rfl, rfl⟩
  go_wp2_with fail
  with_reducible refine (zzIndex_any r1 ⟨#[42]⟩ _ hr1s (by decide)).mono ?_
  rintro e w' ⟨ix, rfl, hix, rfl⟩
  have hixn : ix = (na : Nat) := by rw [HFACT.out.2.1]; exact idx_first (c := 42) HR1.out H42.out hix
  subst hixn
  clear hix
  go_wp2_with fail
  with_reducible refine (zzIndex_any R ⟨#[42]⟩ _ (by omega) (by decide)).mono ?_
  rintro e w' ⟨ix, rfl, hix, rfl⟩
  have hixn : ix = (nc : Nat) := by rw [HFACT.out.2.2.2.1]; exact idx_first (c := 42) HRY.out H42C.out hix
  subst hixn
  clear hix
  go_upto_region 11 with (fail)
  rw [← HFACT.out.2.2.2.2.2.2.1]
  have z1 : (R.extract 0 nc).size = C1.size := by rw [← HFACT.out.2.2.2.2.2.2.2.1]
  have z2 : (R.extract 0 nc ++ M).size = C1.size + M.size := by rw [ByteArray.size_append, z1]
  have z3 : (R.extract (nc + 1) R.size).size = D1.size := by rw [← HFACT.out.2.2.2.2.2.2.2.2]
  have g1 : ¬ 9223372036854775807 < C1.size + M.size := by omega
  have g2 : ¬ 9223372036854775807 < C1.size + M.size + D1.size := by omega
  have w1 : IntKind.i64.wrap ((nc : Int) + 1) = (nc : Int) + 1 := IntWalk.i64_in _ (by omega)
  have b14 : (0 : Int) ≤ (nc : Int) + 1 := by omega
  have t1 : ((nc : Int) + 1).toNat = nc + 1 := by omega
  go_quiet (fail)
  go_wp2
  go_ret
  refine ⟨_, rfl, ?_, below_drewN HB1.out _⟩
  rw [nb_append, nb_append, ← HFACT.out.2.2.2.2.2.2.2.1, ← HFACT.out.2.2.2.2.2.2.2.2, HC1.out, HM.out, HD1.out, List.append_assoc]
end Go.Proofs.YtnhegjjegamdfaaFmt
