/- RefSpec.matchGlob. -/
import Derived.Test.YtnhegjjegamdfaaFmtRgW
namespace Go.Proofs.YtnhegjjegamdfaaFmt
open Go.RowKit
set_option linter.unusedSimpArgs false
set_option linter.unusedVariables false

set_option maxHeartbeats 400000 in
theorem nameStr_any (s : ByteArray) (w : World) : Calls Tryf.prog 18 #[.string s] w fun e w' => e = .returned (.string s) ∧ w' = w := by
  go_enter Tryf.func18, Tryf.ntmps18
  go_wp2
  go_ret
  exact ⟨rfl, rfl⟩
/-- A name that a source with a wildcard takes. -/
def GlobP (nm A B : List Nat) : Prop := A.length + B.length ≤ nm.length ∧ Pre nm A ∧ Suf nm B
set_option maxRecDepth 100000 in
set_option maxHeartbeats 2000000 in
theorem matchGlob_any (t nm : ByteArray) (X Y A B : List Nat) (f : Bool) (w : World) (h : Spec1 t X Y) (hX : X ≠ []) (hf : bx t 0 = 43 ↔ f = true) (hAB : X.drop (if f = true then 1 else 0) = A ++ 42 :: B) (h42 : 42 ∉ A) (hnm : nm.size ≤ 1000) :
    Calls Tryf.prog 34 #[.string t, .string nm] w (BelowPostR (GlobP (nb nm) A B) w) := by
  have hsm := h.small
  have hsz := h.size
  have hXl : A.length + 1 + B.length ≤ X.length := by
    have := congrArg List.length hAB
    rw [List.length_drop, List.length_append, List.length_cons] at this
    omega
  have HAB := Lib.hid hAB; have H42 := Lib.hid h42
  have HSRC := Lib.hid (Src_any t X Y f w h hX hf)
  clear h hX hf hAB h42
  go_enter Tryf.func34, Tryf.ntmps34
  go_wp2_with fail
  with_reducible refine HSRC.out.mono ?_
  rintro e w1 ⟨r, rfl, hr, hb1⟩
  have HB1 := Lib.hid hb1
  have HR : Hid (nb r = A ++ 42 :: B) := Lib.hid (by rw [hr]; exact HAB.out)
  have hrs : r.size = A.length + 1 + B.length := by rw [← nb_length, HR.out]; simp; omega
  obtain ⟨n, hn⟩ : ∃ n, n = A.length := ⟨_, rfl⟩
  have HN := Lib.hid hn
  obtain ⟨P, hP⟩ : ∃ P, P = r.extract 0 n := ⟨_, rfl⟩
  obtain ⟨S, hS⟩ : ∃ S, S = r.extract (n + 1) r.size := ⟨_, rfl⟩
  have HPA : Hid (nb P = A) := Lib.hid (by rw [hP, hn, nb_extract, List.drop_zero, Nat.sub_zero, HR.out, List.take_left])
  have HSB : Hid (nb S = B) := Lib.hid (by rw [hS, hn, nb_tail, HR.out, show A ++ 42 :: B = (A ++ [42]) ++ B by simp, show A.length + 1 = (A ++ [42]).length by simp, List.drop_left])
  have hPz : P.size = n := by rw [← nb_length, HPA.out, hn]
  have hSz : S.size = B.length := by rw [← nb_length, HSB.out]
  have hrl : r.size = n + 1 + S.size := by rw [hrs, hSz, hn]
  have hsmall : r.size ≤ 1000 := by omega
  have HP := Lib.hid hP; have HS := Lib.hid hS; have HPZ := Lib.hid hPz; have HSZ := Lib.hid hSz
  have n1 : (n : Int) + 1 ≤ r.size := by omega
  have n2 : (n : Int) ≤ r.size := by omega
  have n0 : (0 : Int) ≤ n := by omega
  have HRL := Lib.hid hrl
  clear hb1 hr hP hS hPz hSz hrl hrs hn hsz hXl
  go_wp2_with fail
  with_reducible refine (nameStr_any nm _).mono ?_
  rintro e w2 ⟨rfl, rfl⟩
  go_wp2_with fail
  with_reducible refine (zzIndex_any r ⟨#[42]⟩ _ (by omega) (by decide)).mono ?_
  rintro e w' ⟨ix, rfl, hix, rfl⟩
  have hrn : ix = (n : Nat) := by rw [HN.out]; exact idx_first (c := 42) HR.out H42.out hix
  subst hrn
  clear hix
  go_upto_region 4 with (fail)
  by_cases hS0 : S.size = 0
  · have m1 : (r.size : Int) ≤ (n : Int) + 1 := by have := HRL.out; omega
    have HSE : Hid (S = ⟨#[]⟩) := Lib.hid (nb_inj (by rw [show nb ⟨#[]⟩ = [] from rfl, ← List.length_eq_zero_iff, nb_length]; exact hS0))
    go_upto_region 8 with (fail)
    rw [← HP.out, ← HSE.out]
    have hGL : GlobP (nb nm) A B ↔ (P.size + S.size ≤ nm.size ∧ Pre (nb nm) (nb P) ∧ Suf (nb nm) (nb S)) := by
      unfold GlobP
      rw [HPA.out, HSB.out, nb_length, HPZ.out, HSZ.out, HN.out]
    have HGL := Lib.hid hGL
    clear hGL
    have hPS : P.size ≤ 10000 := by have := HPZ.out; omega
    have hSS : S.size ≤ 10000 := by have := HRL.out; omega
    by_cases hlen : P.size + S.size ≤ nm.size
    · have hl : (P.size : Int) + S.size ≤ nm.size := by omega
      have hl3 : P.size ≤ nm.size := by omega
      have hl4 : (P.size : Int) ≤ nm.size := by omega
      go_wp2_with fail
      with_reducible refine (hasPrefix_p nm P _ (by omega) hPS).mono ?_
      rintro e w' ⟨T1, rfl, hT, rfl⟩
      have HT1 := Lib.hid hT
      clear hT
      cases T1 with
      | false =>
        have HNG : Hid (¬ GlobP (nb nm) A B) := Lib.hid (fun h => by have := HT1.out.mpr (HGL.out.mp h).2.1; cases this)
        go_wp2
        go_ret
        exact ⟨false, rfl, ⟨fun h => (by cases h), fun h => absurd h HNG.out⟩, HB1.out⟩
      | true =>
      have HPR : Hid (Pre (nb nm) (nb P)) := Lib.hid (HT1.out.mp rfl)
      clear HT1
      go_wp2_with fail
      with_reducible refine (hasSuffix_p nm S _ (by omega) hSS).mono ?_
      rintro e w' ⟨T2, rfl, hT, rfl⟩
      have HT2 := Lib.hid hT
      clear hT
      go_wp2
      go_ret
      exact ⟨T2, rfl, by rw [HGL.out, HT2.out]; exact ⟨fun h => ⟨hlen, HPR.out, h⟩, fun h => h.2.2⟩, HB1.out⟩
    · have hl : (nm.size : Int) < (P.size : Int) + S.size := by omega
      have HNG : Hid (¬ GlobP (nb nm) A B) := Lib.hid (fun h => hlen (HGL.out.mp h).1)
      go_wp2
      go_ret
      exact ⟨false, rfl, ⟨fun h => (by cases h), fun h => absurd h HNG.out⟩, HB1.out⟩
  · have m1 : (n : Int) + 1 < r.size := by have := HRL.out; omega
    go_upto_region 8 with (fail)
    rw [← HP.out, ← HS.out]
    have hGL : GlobP (nb nm) A B ↔ (P.size + S.size ≤ nm.size ∧ Pre (nb nm) (nb P) ∧ Suf (nb nm) (nb S)) := by
      unfold GlobP
      rw [HPA.out, HSB.out, nb_length, HPZ.out, HSZ.out, HN.out]
    have HGL := Lib.hid hGL
    clear hGL
    have hPS : P.size ≤ 10000 := by have := HPZ.out; omega
    have hSS : S.size ≤ 10000 := by have := HRL.out; omega
    by_cases hlen : P.size + S.size ≤ nm.size
    · have hl : (P.size : Int) + S.size ≤ nm.size := by omega
      have hl3 : P.size ≤ nm.size := by omega
      have hl4 : (P.size : Int) ≤ nm.size := by omega
      go_wp2_with fail
      with_reducible refine (hasPrefix_p nm P _ (by omega) hPS).mono ?_
      rintro e w' ⟨T1, rfl, hT, rfl⟩
      have HT1 := Lib.hid hT
      clear hT
      cases T1 with
      | false =>
        have HNG : Hid (¬ GlobP (nb nm) A B) := Lib.hid (fun h => by have := HT1.out.mpr (HGL.out.mp h).2.1; cases this)
        go_wp2
        go_ret
        exact ⟨false, rfl, ⟨fun h => (by cases h), fun h => absurd h HNG.out⟩, HB1.out⟩
      | true =>
      have HPR : Hid (Pre (nb nm) (nb P)) := Lib.hid (HT1.out.mp rfl)
      clear HT1
      go_wp2_with fail
      with_reducible refine (hasSuffix_p nm S _ (by omega) hSS).mono ?_
      rintro e w' ⟨T2, rfl, hT, rfl⟩
      have HT2 := Lib.hid hT
      clear hT
      go_wp2
      go_ret
      exact ⟨T2, rfl, by rw [HGL.out, HT2.out]; exact ⟨fun h => ⟨hlen, HPR.out, h⟩, fun h => h.2.2⟩, HB1.out⟩
    · have hl : (nm.size : Int) < (P.size : Int) + S.size := by omega
      have HNG : Hid (¬ GlobP (nb nm) A B) := Lib.hid (fun h => hlen (HGL.out.mp h).1)
      go_wp2
      go_ret
      exact ⟨false, rfl, ⟨fun h => (by cases h), fun h => absurd h HNG.out⟩, HB1.out⟩

set_option maxRecDepth 100000 in
set_option maxHeartbeats 1000000 in
theorem MatchWild_any (t nm : ByteArray) (X Y A B : List Nat) (f : Bool) (w : World) (h : Spec1 t X Y) (hX : X ≠ []) (hf : bx t 0 = 43 ↔ f = true) (hAB : X.drop (if f = true then 1 else 0) = A ++ 42 :: B) (h42 : 42 ∉ A) (hnm : nm.size ≤ 1000) :
    Calls Tryf.prog 16 #[.string t, .string nm] w (BelowPostR (GlobP (nb nm) A B) w) := by
  have hsm := h.small
  have HG := Lib.hid (fun w => matchGlob_any t nm X Y A B f w h hX hf hAB h42 hnm)
  have HW : Hid (Has (nb t) [42]) := Lib.hid (by
    have hm : 42 ∈ X := List.mem_of_mem_drop (i := if f = true then 1 else 0) (by rw [hAB]; simp)
    rw [h.text]
    exact (mem_has _ 42).mp (List.mem_append_left _ hm))
  clear h hX hf hAB h42
  go_enter Tryf.func16, Tryf.ntmps16
  go_wp2_with fail
  with_reducible refine (IsWild_any t _ hsm).mono ?_
  rintro e w' ⟨B1, rfl, hB, rfl⟩
  have hB1 : B1 = true := hB.mpr HW.out
  subst hB1
  clear hB
  go_wp2_with fail
  with_reducible refine (HG.out _).mono ?_
  rintro e w2 ⟨B2, rfl, hB2, hb2⟩
  have HB2 := Lib.hid hB2; have HBL := Lib.hid hb2
  clear hB2 hb2
  go_wp2
  go_ret
  exact ⟨B2, rfl, HB2.out, HBL.out⟩
end Go.Proofs.YtnhegjjegamdfaaFmt
