/- Match, Dst and SpecMatch of a refspec with or without a wildcard. -/
import Derived.Test.YtnhegjjegamdfaaFmtRgX
namespace Go.Proofs.YtnhegjjegamdfaaFmt
open Go.RowKit
set_option linter.unusedSimpArgs false
set_option linter.unusedVariables false

set_option maxRecDepth 100000 in
set_option maxHeartbeats 1000000 in
theorem matchExact_any (t nm : ByteArray) (X Y A : List Nat) (f : Bool) (w : World) (h : Spec1 t X Y) (hX : X ≠ []) (hf : bx t 0 = 43 ↔ f = true) (hA : X.drop (if f = true then 1 else 0) = A) :
    Calls Tryf.prog 33 #[.string t, .string nm] w (BelowPostR (nb nm = A) w) := by
  have HSRC := Lib.hid (fun w => Src_any t X Y f w h hX hf)
  have HA := Lib.hid hA
  clear h hX hf hA
  go_enter Tryf.func33, Tryf.ntmps33
  go_wp2_with fail
  with_reducible refine (HSRC.out _).mono ?_
  rintro e w1 ⟨r1, rfl, hr1, hb1⟩
  have HB1 := Lib.hid hb1
  have HR1 : Hid (nb r1 = A) := Lib.hid (hr1.trans HA.out)
  clear hr1 hb1
  go_wp2_with fail
  with_reducible refine (nameStr_any nm _).mono ?_
  rintro e w2 ⟨rfl, rfl⟩
  have hq := beq_str2 r1 nm
  have HQ := Lib.hid (beq_iff_eq (a := nb r1) (b := nb nm))
  generalize hB : (nb r1 == nb nm) = B at hq HQ
  clear hB
  go_wp2
  go_ret
  exact ⟨B, rfl, HQ.out.trans (by rw [HR1.out]; exact eq_comm), HB1.out⟩
theorem no_star {t : ByteArray} {X Y : List Nat} (h : Spec1 t X Y) (h0 : cnt X 42 = 0) : ¬ Has (nb t) [42] := by
  intro hh
  have hm := (mem_has _ 42).mpr hh
  have hc : ∀ l : List Nat, cnt l 42 = 0 → 42 ∉ l := by
    intro l hl hml
    unfold cnt at hl
    rw [List.countP_eq_zero] at hl
    exact hl 42 hml (by simp)
  rw [h.text] at hm
  rcases List.mem_append.mp hm with hm | hm
  · exact hc X h0 hm
  · rcases List.mem_cons.mp hm with hm | hm
    · cases hm
    · exact hc Y (h.stars ▸ h0) hm
set_option maxRecDepth 100000 in
set_option maxHeartbeats 1000000 in
theorem MatchExact_any (t nm : ByteArray) (X Y A : List Nat) (f : Bool) (w : World) (h : Spec1 t X Y) (hX : X ≠ []) (hf : bx t 0 = 43 ↔ f = true) (hA : X.drop (if f = true then 1 else 0) = A) (h0 : cnt X 42 = 0) :
    Calls Tryf.prog 16 #[.string t, .string nm] w (BelowPostR (nb nm = A) w) := by
  have hsm := h.small
  have HG := Lib.hid (fun w => matchExact_any t nm X Y A f w h hX hf hA)
  have HW : Hid (¬ Has (nb t) [42]) := Lib.hid (no_star h h0)
  clear h hX hf hA h0
  go_enter Tryf.func16, Tryf.ntmps16
  go_wp2_with fail
  with_reducible refine (IsWild_any t _ hsm).mono ?_
  rintro e w' ⟨B1, rfl, hB, rfl⟩
  have hB1 : B1 = false := by cases B1 with | false => rfl | true => exact absurd (hB.mp rfl) HW.out
  subst hB1
  clear hB
  go_wp2_with fail
  with_reducible refine (HG.out _).mono ?_
  rintro e w2 ⟨B2, rfl, hB2, hb2⟩
  have HB2 := Lib.hid hB2; have HBL := Lib.hid hb2
  clear hB2 hb2
  go_wp2
  go_ret
  exact ⟨B2, rfl, HB2.out, HBL.out⟩
set_option maxRecDepth 100000 in
set_option maxHeartbeats 1000000 in
theorem DstExact_any (t nm : ByteArray) (X Y : List Nat) (f : Bool) (w : World) (h : Spec1 t X Y) (hX : X ≠ []) (hf : bx t 0 = 43 ↔ f = true) (h0 : cnt X 42 = 0) :
    Calls Tryf.prog 17 #[.string t, .string nm] w (NbPost Y w) := by
  have hsm := h.small
  have HS := Lib.hid h
  have HSRC := Lib.hid (fun w => Src_any t X Y f w h hX hf)
  have HW : Hid (¬ Has (nb t) [42]) := Lib.hid (no_star h h0)
  have hsz := h.size
  obtain ⟨n, hn⟩ : ∃ n, n = X.length := ⟨_, rfl⟩
  have HN := Lib.hid hn
  have b1 : (n : Int) + 1 ≤ t.size := by omega
  have b2 : (0 : Int) ≤ (n : Int) + 1 := by omega
  clear h hX hf h0 hsz hn
  go_enter Tryf.func17, Tryf.ntmps17
  go_wp2_with fail
  with_reducible refine (zzIndex_any t ⟨#[58]⟩ _ (by omega) (by decide)).mono ?_
  rintro e w' ⟨r, rfl, hr, rfl⟩
  have hrn : r = (n : Nat) := by rw [HN.out]; exact idx_first (c := 58) HS.out.text HS.out.head hr
  subst hrn
  clear hr
  go_wp2_with fail
  with_reducible refine (HSRC.out _).mono ?_
  rintro e w1 ⟨r1, rfl, hr1, hb1⟩
  have HB1 := Lib.hid hb1
  clear hr1 hb1
  go_wp2_with fail
  with_reducible refine (IsWild_any t _ hsm).mono ?_
  rintro e w' ⟨B1, rfl, hB, rfl⟩
  have hB1 : B1 = false := by cases B1 with | false => rfl | true => exact absurd (hB.mp rfl) HW.out
  subst hB1
  clear hB
  go_wp2
  go_ret
  exact ⟨_, rfl, by rw [HN.out]; exact HS.out.right, HB1.out⟩

/-- What SpecMatch answers. -/
def SmPost (Q : Prop) (dl : List Nat) (w : World) (e : Ending) (w' : World) : Prop :=
  ∃ (B : Bool) (r : ByteArray), e = .returned (.tuple #[.bool B, .string r, .bool true]) ∧ (B = true ↔ Q) ∧ (Q → nb r = dl) ∧ Below w.heap.size w w'
set_option maxRecDepth 100000 in
set_option maxHeartbeats 1000000 in
theorem SpecMatchG_any (t nm : ByteArray) (X Y : List Nat) (Q : Prop) (dl : List Nat) (w : World) (h : Spec1 t X Y)
    (hm : ∀ w, Calls Tryf.prog 16 #[.string t, .string nm] w (BelowPostR Q w))
    (hd : Q → ∀ w, Calls Tryf.prog 17 #[.string t, .string nm] w (NbPost dl w)) :
    Calls Tryf.prog 8 #[.string t, .string nm] w (SmPost Q dl w) := by
  have HV := Lib.hid (fun w => specValidate_any t X Y w h)
  have HMT := Lib.hid hm
  have HD := Lib.hid hd
  clear h hm hd
  go_enter Tryf.func8, Tryf.ntmps8
  go_wp2_with fail
  with_reducible refine (HV.out _).mono ?_
  rintro e w' ⟨rfl, rfl⟩
  go_wp2_with fail
  with_reducible refine (HMT.out _).mono ?_
  rintro e w1 ⟨B1, rfl, hB, hb1⟩
  have HB1 := Lib.hid hb1
  have HQ := Lib.hid hB
  clear hB hb1
  cases B1 with
  | false =>
    have HN : Hid (¬ Q) := Lib.hid (fun h => by have := HQ.out.mpr h; cases this)
    go_wp2
    go_ret3
    exact ⟨false, _, rfl, HQ.out, fun h => absurd h HN.out, HB1.out⟩
  | true =>
  have HDS := Lib.hid (HD.out (HQ.out.mp rfl))
  go_wp2_with fail
  with_reducible refine (HDS.out _).mono ?_
  rintro e w2 ⟨r, rfl, hr, hb2⟩
  have HR := Lib.hid hr
  have HB2 : Hid (Below w.heap.size w w2) := Lib.hid (HB1.out.trans (hb2.mono HB1.out.size))
  clear hr hb2
  go_wp2_with fail
  with_reducible refine (nameStr_any r _).mono ?_
  rintro e w3 ⟨rfl, rfl⟩
  go_wp2
  go_ret3
  exact ⟨true, r, rfl, ⟨fun _ => HQ.out.mp trivial, fun _ => rfl⟩, fun _ => HR.out, HB2.out⟩
theorem drop_fore (f : Bool) (l : List Nat) : (foreN f ++ l).drop (if f = true then 1 else 0) = l := by cases f <;> simp [foreN]
/-- Match of a refspec's text. -/
theorem Match_any {f wl : Bool} {a b c d : ByteArray} (h : RsOk wl a b c d) (nm : ByteArray) (w : World) (hnm : nm.size ≤ 1000) :
    Calls Tryf.prog 16 #[.string (rsText f wl a b c d), .string nm] w (BelowPostR (MatchN wl (nb a) (nb b) (nb nm)) w) := by
  have h42 : ¬ sideC 42 := by unfold sideC; omega
  cases wl with
  | true =>
    refine (MatchWild_any _ nm _ _ (nb a) (nb b) f w (text_spec1 h) (text_some h) (text_force h) ?_ (side_no h.1 h42) hnm).mono ?_
    · rw [drop_fore]; rfl
    · rintro e w' ⟨B, rfl, hB, hb⟩
      exact ⟨B, rfl, by simpa [MatchN] using hB, hb⟩
  | false =>
    refine (MatchExact_any _ nm _ _ (nb a) f w (text_spec1 h) (text_some h) (text_force h) ?_ ?_).mono ?_
    · rw [drop_fore]; rfl
    · rw [fore_star, sideN_cnt h.1 h.2.1]; rfl
    · rintro e w' ⟨B, rfl, hB, hb⟩
      exact ⟨B, rfl, by simpa [MatchN] using hB, hb⟩
/-- Dst of a refspec's text at a name that it takes. -/
theorem Dst_any {f wl : Bool} {a b c d : ByteArray} (h : RsOk wl a b c d) (nm : ByteArray) (w : World) (hnm : nm.size ≤ 1000) (hm : MatchN wl (nb a) (nb b) (nb nm)) :
    Calls Tryf.prog 17 #[.string (rsText f wl a b c d), .string nm] w (NbPost (toN wl (nb a) (nb b) (nb c) (nb d) (nb nm)) w) := by
  have h42 : ¬ sideC 42 := by unfold sideC; omega
  cases wl with
  | true =>
    have hg : GlobP (nb nm) (nb a) (nb b) := by simpa [MatchN] using hm
    exact DstWild_any _ nm _ _ (nb a) (nb b) (nb c) (nb d) (partN (nb a) (nb b) (nb nm)) f w (text_spec1 h) (text_some h) (text_force h) (by rw [drop_fore]; rfl) (side_no h.1 h42) rfl (side_no h.2.2.1 h42) (part_mid hg) hnm
  | false =>
    exact DstExact_any _ nm _ _ f w (text_spec1 h) (text_some h) (text_force h) (by rw [fore_star, sideN_cnt h.1 h.2.1]; rfl)
theorem SpecMatch_any {f wl : Bool} {a b c d : ByteArray} (h : RsOk wl a b c d) (nm : ByteArray) (w : World) (hnm : nm.size ≤ 1000) :
    Calls Tryf.prog 8 #[.string (rsText f wl a b c d), .string nm] w (SmPost (MatchN wl (nb a) (nb b) (nb nm)) (toN wl (nb a) (nb b) (nb c) (nb d) (nb nm)) w) :=
  SpecMatchG_any _ nm _ _ _ _ w (text_spec1 (f := f) h) (fun w => Match_any h nm w hnm) (fun hq w => Dst_any h nm w hnm hq)
end Go.Proofs.YtnhegjjegamdfaaFmt
