/- RefSpec.Validate of a right text; Src, Reverse. -/
import Derived.Test.YtnhegjjegamdfaaFmtRgP
namespace Go.Proofs.YtnhegjjegamdfaaFmt
open Go.RowKit
set_option linter.unusedSimpArgs false
set_option linter.unusedVariables false

/-- A text with one colon, as many wildcards ahead of it as behind it (none or one), and something behind it. -/
structure Spec1 (t : ByteArray) (X Y : List Nat) : Prop where
  text : nb t = X ++ 58 :: Y
  head : 58 ∉ X
  tail : 58 ∉ Y
  some : Y ≠ []
  stars : cnt X 42 = cnt Y 42
  few : cnt X 42 ≤ 1
  small : t.size ≤ 1000
theorem Spec1.size {t : ByteArray} {X Y : List Nat} (h : Spec1 t X Y) : t.size = X.length + 1 + Y.length := by
  rw [← nb_length, h.text]; simp; omega
theorem Spec1.left {t : ByteArray} {X Y : List Nat} (h : Spec1 t X Y) : nb (t.extract 0 X.length) = X := by
  rw [nb_extract, List.drop_zero, Nat.sub_zero, h.text, List.take_left]
theorem Spec1.right {t : ByteArray} {X Y : List Nat} (h : Spec1 t X Y) : nb (t.extract (X.length + 1) t.size) = Y := by
  rw [nb_tail, h.text, show X ++ 58 :: Y = (X ++ [58]) ++ Y by simp, show X.length + 1 = (X ++ [58]).length by simp, List.drop_left]
theorem Spec1.one {t : ByteArray} {X Y : List Nat} (h : Spec1 t X Y) : cnt (nb t) 58 = 1 := by
  rw [h.text, cnt_append, cnt_none _ _ h.head, cnt_cons, cnt_none _ _ h.tail]

set_option maxRecDepth 100000 in
set_option maxHeartbeats 1000000 in
theorem specValidate_any (t : ByteArray) (X Y : List Nat) (w : World) (h : Spec1 t X Y) :
    Calls Tryf.prog 15 #[.string t] w fun e w' => e = .returned .nilIface ∧ w = w' := by
  have hsz := h.size
  have hsm := h.small
  have hY : 1 ≤ Y.length := by
    cases Y with
    | nil => exact absurd rfl h.some
    | cons y l => simp
  obtain ⟨n, hn⟩ : ∃ n, n = X.length := ⟨_, rfl⟩
  have HS := Lib.hid h
  have HN := Lib.hid hn
  rw [← hn] at hsz
  clear h
  have hn1 : (n : Int) + 1 ≤ t.size := by omega
  have hn2 : (n : Int) ≤ t.size := by omega
  have hq : ((n : Int) == (t.size : Int) - 1) = false := beq_eq_false_iff_ne.mpr (by omega)
  clear hn hsz hY
  go_enter Tryf.func15, Tryf.ntmps15
  go_wp2_with fail
  with_reducible refine (zzCount_any t 58 _ (by omega)).mono ?_
  rintro e w' ⟨rfl, rfl⟩
  have h58 : cnt (nb t) (UInt8.toNat 58) = 1 := HS.out.one
  rw [h58]
  clear h58
  go_wp2_with fail
  with_reducible refine (zzIndex_any t ⟨#[58]⟩ _ (by omega) (by decide)).mono ?_
  rintro e w' ⟨r, rfl, hr, rfl⟩
  have hrn : r = (n : Nat) := by rw [HN.out]; exact idx_first (c := 58) HS.out.text HS.out.head hr
  subst hrn
  clear hr
  obtain ⟨L, hL⟩ : ∃ L, L = t.extract 0 n := ⟨_, rfl⟩
  obtain ⟨R, hR⟩ : ∃ R, R = t.extract (n + 1) t.size := ⟨_, rfl⟩
  have HLX : Hid (nb L = X) := Lib.hid (by rw [hL, HN.out]; exact HS.out.left)
  have HRY : Hid (nb R = Y) := Lib.hid (by rw [hR, HN.out]; exact HS.out.right)
  have hLz : L.size ≤ 10000 := by rw [hL]; exact Nat.le_trans (extract_le _ _ _ _ (Nat.le_refl _)) (by omega)
  have hRz : R.size ≤ 10000 := by rw [hR]; exact Nat.le_trans (extract_le _ _ _ _ (Nat.le_refl _)) (by omega)
  have hcl : cnt (nb L) (UInt8.toNat 42) = cnt X 42 := by rw [HLX.out]; rfl
  have hcr : cnt (nb R) (UInt8.toNat 42) = cnt X 42 := by rw [HRY.out]; exact HS.out.stars.symm
  have HCL := Lib.hid hcl; have HCR := Lib.hid hcr; have HL := Lib.hid hL; have HR := Lib.hid hR
  have hfew := HS.out.few
  clear hcl hcr hL hR
  go_wp2_with fail
  rw [← HL.out]
  with_reducible refine (zzCount_any L 42 _ hLz).mono ?_
  rintro e w' ⟨rfl, rfl⟩
  rw [HCL.out]
  go_wp2_with fail
  rw [← HR.out]
  with_reducible refine (zzCount_any R 42 _ hRz).mono ?_
  rintro e w' ⟨rfl, rfl⟩
  rw [HCR.out]
  generalize cnt X 42 = m at hfew
  have hm : (m : Int) < 2 := by omega
  have hmm : ((m : Int) == (m : Int)) = true := by simp
  go_wp2
  go_ret
  exact ⟨rfl, rfl⟩
end Go.Proofs.YtnhegjjegamdfaaFmt
