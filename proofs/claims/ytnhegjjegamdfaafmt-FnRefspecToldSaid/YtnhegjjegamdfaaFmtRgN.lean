/- Plain facts of a refspec's text, and its rows of cells. -/
import Derived.Test.YtnhegjjegamdfaaFmtRgO
namespace Go.Proofs.YtnhegjjegamdfaaFmt
open Go.RowKit
set_option linter.unusedSimpArgs false
set_option linter.unusedVariables false

theorem rsKind : Tryf.prog.underlying 23 = some (.struct (match Tryf.prog.underlying 23 with | some (.struct f) => f | _ => #[])) := by kernel_rfl
theorem rsSize : (Tryf.prog.info? 23).map (·.size) = some 6 := by kernel_rfl
theorem head_no43 {t A : ByteArray} {R : List Nat} (hA : IsSide A) (h0 : A.size ≠ 0) (ht : nb t = nb A ++ R) : bx t 0 ≠ 43 := by
  cases hl : nb A with
  | nil => exact absurd (by rw [← nb_length, hl]; rfl) h0
  | cons y l =>
    have hb : bx t 0 = y := by unfold bx; rw [ht, hl]; rfl
    rw [hb]
    have hy : sideC y := hA.mem (by rw [hl]; simp)
    intro e
    subst e
    revert hy
    unfold sideC
    omega
theorem side_len {s : ByteArray} (h : IsSide s) : (nb s).length ≤ 30 := by rw [nb_length]; exact h.1
theorem sideN_len {a b : ByteArray} (wl : Bool) (ha : IsSide a) (hb : IsSide b) : (sideN (nb a) (nb b) wl).length ≤ 61 := by
  have h1 := side_len ha
  have h2 := side_len hb
  unfold sideN
  split
  · simp only [List.length_append, List.length_cons]; omega
  · omega
theorem sideN_some {a b : ByteArray} (wl : Bool) (h0 : a.size ≠ 0) : sideN (nb a) (nb b) wl ≠ [] := by
  intro h
  have h1 : (sideN (nb a) (nb b) wl).length = 0 := by rw [h]; rfl
  have h2 := nb_length a
  unfold sideN at h1
  split at h1
  · simp at h1
  · omega
theorem fore_len (f : Bool) : (foreN f).length ≤ 1 := by cases f <;> simp [foreN]
/-- A right refspec's text. -/
theorem text_spec1 {f wl : Bool} {a b c d : ByteArray} (h : RsOk wl a b c d) : Spec1 (rsText f wl a b c d) (foreN f ++ sideN (nb a) (nb b) wl) (sideN (nb c) (nb d) wl) := by
  have hn := nb_text f wl a b c d
  have l1 := sideN_len wl h.1 h.2.1
  have l2 := sideN_len wl h.2.2.1 h.2.2.2.1
  have l3 := fore_len f
  refine ⟨hn, text_head h, sideN_no h.2.2.1 h.2.2.2.1 (by unfold sideC; omega) (by decide), sideN_some wl h.2.2.2.2.2.2, ?_, ?_, ?_⟩
  · rw [fore_star, sideN_cnt h.1 h.2.1, sideN_cnt h.2.2.1 h.2.2.2.1]
  · rw [fore_star, sideN_cnt h.1 h.2.1]; split <;> omega
  · rw [← nb_length, hn, List.length_append, List.length_append, List.length_cons]; omega
theorem text_some {f wl : Bool} {a b c d : ByteArray} (h : RsOk wl a b c d) : foreN f ++ sideN (nb a) (nb b) wl ≠ [] := by
  intro e
  exact sideN_some wl h.2.2.2.2.2.1 (List.append_eq_nil_iff.mp e).2
theorem text_force {f wl : Bool} {a b c d : ByteArray} (h : RsOk wl a b c d) : bx (rsText f wl a b c d) 0 = 43 ↔ f = true := by
  have hn := nb_text f wl a b c d
  cases f with
  | true =>
    refine ⟨fun _ => rfl, fun _ => ?_⟩
    unfold bx; rw [hn]; rfl
  | false =>
    refine ⟨fun e => absurd e ?_, fun e => by cases e⟩
    cases wl with
    | true => exact head_no43 (R := (42 :: nb b) ++ 58 :: sideN (nb c) (nb d) true) h.1 h.2.2.2.2.2.1 (by rw [hn]; simp [foreN, sideN])
    | false => exact head_no43 (R := 58 :: sideN (nb c) (nb d) false) h.1 h.2.2.2.2.2.1 (by rw [hn]; simp [foreN, sideN])
/-- The text the other way round. -/
theorem Spec1.back {t r : ByteArray} {X Y : List Nat} (h : Spec1 t X Y) (hX : X ≠ []) (hr : nb r = Y ++ 58 :: X) : Spec1 r Y X :=
  ⟨hr, h.tail, h.head, hX, h.stars.symm, by have := h.few; have := h.stars; omega, by
    have h1 := h.size
    have h2 := h.small
    have h3 : r.size = Y.length + 1 + X.length := by rw [← nb_length, hr]; simp; omega
    omega⟩
end Go.Proofs.YtnhegjjegamdfaaFmt
