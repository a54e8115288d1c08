/- RefSpec: IsForceUpdate, IsWildcard, Src, Reverse. -/
import Derived.Test.YtnhegjjegamdfaaFmtRgV
import Derived.IntWalk
namespace Go.Proofs.YtnhegjjegamdfaaFmt
open Go.RowKit
set_option linter.unusedSimpArgs false
set_option linter.unusedVariables false

def SameBool (Q : Prop) (w : World) (e : Ending) (w' : World) : Prop := ∃ B : Bool, e = .returned (.bool B) ∧ (B = true ↔ Q) ∧ w = w'
set_option maxHeartbeats 400000 in
theorem IsForce_any (t : ByteArray) (w : World) (h1 : 1 ≤ t.size) (hs : t.size ≤ 1000) : Calls Tryf.prog 23 #[.string t] w (BelowPostR (bx t 0 = 43) w) := by
  have h43 : ((⟨#[43]⟩ : ByteArray)[0]'(by decide)).toNat = 43 := rfl
  have hb := bx_get t 0 (by omega)
  have h0 : (0 : Int) < t.size := by omega
  by_cases h : bx t 0 = 43
  · rw [h] at hb
    have HY := Lib.hid h
    clear h
    go_enter Tryf.func23, Tryf.ntmps23
    go_wp2
    go_quiet (fail)
    go_wp2
    go_ret
    exact ⟨true, rfl, ⟨fun _ => HY.out, fun _ => rfl⟩, below_drewN (Below.refl _ _) _⟩
  · have HN := Lib.hid h
    have q : ((bx t 0 : Int) == 43) = false := beq_eq_false_iff_ne.mpr (by omega)
    generalize bx t 0 = c at hb q HN
    clear h
    go_enter Tryf.func23, Tryf.ntmps23
    go_wp2
    go_quiet (fail)
    go_wp2
    go_ret
    exact ⟨false, rfl, ⟨fun h => (by cases h), fun h => absurd h HN.out⟩, below_drewN (Below.refl _ _) _⟩
set_option maxHeartbeats 400000 in
theorem IsWild_any (t : ByteArray) (w : World) (hs : t.size ≤ 1000) : Calls Tryf.prog 26 #[.string t] w (SameBool (Has (nb t) [42]) w) := by
  go_enter Tryf.func26, Tryf.ntmps26
  go_wp2_with fail
  with_reducible refine (zzContains_any t ⟨#[42]⟩ _ (by omega) (by decide)).mono ?_
  rintro e w' ⟨B, rfl, hB, rfl⟩
  have HB : Hid (B = true ↔ Has (nb t) [42]) := Lib.hid hB
  clear hB
  go_wp2
  go_ret
  exact ⟨B, rfl, HB.out, rfl⟩

/-- What a text gives as its source: the signs X ahead of the colon, without a plus at their head. -/
def SrcPost (X : List Nat) (f : Bool) (w : World) (e : Ending) (w' : World) : Prop :=
  ∃ r : ByteArray, e = .returned (.string r) ∧ nb r = X.drop (if f = true then 1 else 0) ∧ Below w.heap.size w w'
set_option maxRecDepth 100000 in
set_option maxHeartbeats 1000000 in
theorem Src_any (t : ByteArray) (X Y : List Nat) (f : Bool) (w : World) (h : Spec1 t X Y) (hX : X ≠ []) (hf : bx t 0 = 43 ↔ f = true) :
    Calls Tryf.prog 20 #[.string t] w (SrcPost X f w) := by
  have hsz := h.size
  have hsm := h.small
  have hX1 : 1 ≤ X.length := by
    cases X with
    | nil => exact absurd rfl hX
    | cons y l => simp
  obtain ⟨n, hn⟩ : ∃ n, n = X.length := ⟨_, rfl⟩
  have HS := Lib.hid h
  have HN := Lib.hid hn
  have HF := Lib.hid hf
  rw [← hn] at hsz hX1
  clear h hf hX
  have h1 : 1 ≤ t.size := by omega
  have hn2 : (n : Int) ≤ t.size := by omega
  have hn1 : (1 : Int) ≤ n := by omega
  have hn0 : (0 : Int) ≤ n := by omega
  clear hn hsz
  go_enter Tryf.func20, Tryf.ntmps20
  go_wp2_with fail
  with_reducible refine (IsForce_any t _ h1 hsm).mono ?_
  rintro e w1 ⟨B, rfl, hB, hb1⟩
  have HB1 := Lib.hid hb1
  have hBf : B = f := by rw [Bool.eq_iff_iff, hB, HF.out]
  subst hBf
  clear hB hb1 HF
  cases B with
  | true =>
    go_wp2_with fail
    with_reducible refine (zzIndex_any t ⟨#[58]⟩ _ (by omega) (by decide)).mono ?_
    rintro e w' ⟨r, rfl, hr, rfl⟩
    have hrn : r = (n : Nat) := by rw [HN.out]; exact idx_first (c := 58) HS.out.text HS.out.head hr
    subst hrn
    clear hr
    go_wp2
    go_ret
    refine ⟨_, rfl, ?_, HB1.out⟩
    rw [nb_extract, HS.out.text, HN.out, List.drop_append_of_le_length (by rw [← HN.out]; omega), List.take_append_of_le_length (by rw [List.length_drop]; exact Nat.le_refl _), List.take_of_length_le (by rw [List.length_drop]; exact Nat.le_refl _)]
    rfl
  | false =>
    go_wp2_with fail
    with_reducible refine (zzIndex_any t ⟨#[58]⟩ _ (by omega) (by decide)).mono ?_
    rintro e w' ⟨r, rfl, hr, rfl⟩
    have hrn : r = (n : Nat) := by rw [HN.out]; exact idx_first (c := 58) HS.out.text HS.out.head hr
    subst hrn
    clear hr
    go_wp2
    go_ret
    refine ⟨_, rfl, ?_, HB1.out⟩
    rw [HN.out]
    exact HS.out.left

def RevPost (X Y : List Nat) (w : World) (e : Ending) (w' : World) : Prop := ∃ r : ByteArray, e = .returned (.string r) ∧ nb r = Y ++ 58 :: X ∧ Below w.heap.size w w'
set_option maxRecDepth 100000 in
set_option maxHeartbeats 1000000 in
theorem Reverse_any (t : ByteArray) (X Y : List Nat) (w : World) (h : Spec1 t X Y) : Calls Tryf.prog 21 #[.string t] w (RevPost X Y w) := by
  have hsz := h.size
  have hsm := h.small
  obtain ⟨n, hn⟩ : ∃ n, n = X.length := ⟨_, rfl⟩
  have HS := Lib.hid h
  have HN := Lib.hid hn
  rw [← hn] at hsz
  clear h
  have hn1 : (n : Int) + 1 ≤ t.size := by omega
  have hn2 : (n : Int) ≤ t.size := by omega
  have hn0 : (0 : Int) ≤ n := by omega
  have hn3 : (0 : Int) ≤ (n : Int) + 1 := by omega
  clear hn hsz
  obtain ⟨L, hL⟩ : ∃ L, L = t.extract 0 n := ⟨_, rfl⟩
  obtain ⟨R, hR⟩ : ∃ R, R = t.extract (n + 1) t.size := ⟨_, rfl⟩
  have HLX : Hid (nb L = X) := Lib.hid (by rw [hL, HN.out]; exact HS.out.left)
  have HRY : Hid (nb R = Y) := Lib.hid (by rw [hR, HN.out]; exact HS.out.right)
  have z1 : (t.extract (n + 1) t.size).size = t.size - (n + 1) := size_tail t (n + 1)
  have z2 : (t.extract (n + 1) t.size ++ (⟨#[58]⟩ : ByteArray)).size = t.size - (n + 1) + 1 := by rw [ByteArray.size_append, z1]; rfl
  have z3 : (t.extract 0 n).size = n := by rw [ByteArray.size_extract]; omega
  have g1 : ¬ 9223372036854775807 < t.size - (n + 1) + 1 := by omega
  have g2 : ¬ 9223372036854775807 < t.size - (n + 1) + 1 + n := by omega
  have w1 : IntKind.i64.wrap ((n : Int) + 1) = (n : Int) + 1 := IntWalk.i64_in _ (by omega)
  have t1 : ((n : Int) + 1).toNat = n + 1 := by omega
  have HL := Lib.hid hL; have HR := Lib.hid hR
  clear hL hR
  go_enter Tryf.func21, Tryf.ntmps21
  go_wp2_with fail
  with_reducible refine (zzIndex_any t ⟨#[58]⟩ _ (by omega) (by decide)).mono ?_
  rintro e w' ⟨r, rfl, hr, rfl⟩
  have hrn : r = (n : Nat) := by rw [HN.out]; exact idx_first (c := 58) HS.out.text HS.out.head hr
  subst hrn
  clear hr
  go_wp2
  go_quiet (fail)
  go_wp2
  go_ret
  refine ⟨_, rfl, ?_, below_drewN (Below.refl _ _) _⟩
  rw [nb_append, nb_append, ← HL.out, ← HR.out, HLX.out, HRY.out]
  simp [nb]
end Go.Proofs.YtnhegjjegamdfaaFmt
