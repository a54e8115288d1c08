/- Where the signs of a refspec's text stand, in plain Lean. -/
import Derived.Test.YtnhegjjegamdfaaFmtRgT
namespace Go.Proofs.YtnhegjjegamdfaaFmt
open Go.RowKit
set_option linter.unusedSimpArgs false
set_option linter.unusedVariables false

theorem idx_first {s : ByteArray} {c : UInt8} {x y : List Nat} (h : nb s = x ++ c.toNat :: y) (hx : c.toNat ∉ x) {r : Int} (hr : IdxAt s ⟨#[c]⟩ r) : r = (x.length : Nat) := by
  have hs : s.size = x.length + (y.length + 1) := by rw [← nb_length, h]; simp
  have hsub : (⟨#[c]⟩ : ByteArray).size = 1 := rfl
  have hat : subAt s ⟨#[c]⟩ x.length = true := (subAt_iff s ⟨#[c]⟩ x.length (by rw [hsub]; omega)).mpr ⟨x, y, by rw [h]; rfl, rfl⟩
  rcases hr with ⟨rfl, hno⟩ | ⟨k, rfl, hk, h1, h2⟩
  · exact absurd ⟨x, y, by rw [h]; rfl⟩ hno
  · rw [hsub] at hk
    by_cases hlt : x.length < k
    · rw [h2 _ hlt] at hat; cases hat
    · by_cases heq : k = x.length
      · rw [heq]
      · exfalso
        obtain ⟨a, b, e, hl⟩ := (subAt_iff s ⟨#[c]⟩ k (by rw [hsub]; omega)).mp h1
        have hk2 : k < x.length := by omega
        have e2 : x ++ c.toNat :: y = a ++ (c.toNat :: b) := by rw [← h, e]; rfl
        have e3 : (x ++ c.toNat :: y)[k]? = some c.toNat := by rw [e2, List.getElem?_append_right (by omega), hl, Nat.sub_self]; rfl
        rw [List.getElem?_append_left hk2] at e3
        exact hx (List.mem_of_getElem? e3)
theorem cnt_append (x y : List Nat) (c : Nat) : cnt (x ++ y) c = cnt x c + cnt y c := by unfold cnt; rw [List.countP_append]
theorem cnt_none (x : List Nat) (c : Nat) (h : c ∉ x) : cnt x c = 0 := by
  unfold cnt
  rw [List.countP_eq_zero]
  intro d hd
  simp only [beq_iff_eq]
  exact fun e => h (e ▸ hd)
theorem cnt_cons (y : List Nat) (c : Nat) : cnt (c :: y) c = cnt y c + 1 := by unfold cnt; rw [List.countP_cons]; simp
theorem side_no {s : ByteArray} (h : IsSide s) {c : Nat} (hc : ¬ sideC c) : c ∉ nb s := fun hm => hc (h.mem hm)
/-- The signs of a side with its wildcard. -/
def sideN (a b : List Nat) (wl : Bool) : List Nat := if wl = true then a ++ 42 :: b else a
theorem nb_side (a b : ByteArray) (wl : Bool) : nb (side a b wl) = sideN (nb a) (nb b) wl := by
  unfold side sideN
  split
  · rw [nb_append, nb_append]; simp [nb]
  · rfl
theorem sideN_no {a b : ByteArray} {wl : Bool} (ha : IsSide a) (hb : IsSide b) {c : Nat} (hc : ¬ sideC c) (h42 : c ≠ 42) : c ∉ sideN (nb a) (nb b) wl := by
  unfold sideN
  split
  · intro hm
    rcases List.mem_append.mp hm with hm | hm
    · exact side_no ha hc hm
    · rcases List.mem_cons.mp hm with hm | hm
      · exact h42 hm
      · exact side_no hb hc hm
  · exact side_no ha hc
theorem sideN_cnt {a b : ByteArray} {wl : Bool} (ha : IsSide a) (hb : IsSide b) : cnt (sideN (nb a) (nb b) wl) 42 = if wl = true then 1 else 0 := by
  have h42 : ¬ sideC 42 := by unfold sideC; omega
  unfold sideN
  split
  · rw [cnt_append, cnt_none _ _ (side_no ha h42), cnt_cons, cnt_none _ _ (side_no hb h42)]
  · exact cnt_none _ _ (side_no ha h42)
def foreN (f : Bool) : List Nat := if f = true then [43] else []
theorem nb_text (f wl : Bool) (a b c d : ByteArray) : nb (rsText f wl a b c d) = (foreN f ++ sideN (nb a) (nb b) wl) ++ 58 :: sideN (nb c) (nb d) wl := by
  unfold rsText
  rw [nb_append, nb_append, nb_append, nb_side, nb_side]
  have h1 : nb (fore f) = foreN f := by cases f <;> rfl
  rw [h1]; simp [nb]
theorem text_head {f wl : Bool} {a b c d : ByteArray} (h : RsOk wl a b c d) : 58 ∉ foreN f ++ sideN (nb a) (nb b) wl := by
  intro hm
  rcases List.mem_append.mp hm with hm | hm
  · cases f <;> simp [foreN] at hm
  · exact sideN_no h.1 h.2.1 (by unfold sideC; omega) (by decide) hm
theorem text_count {f wl : Bool} {a b c d : ByteArray} (h : RsOk wl a b c d) : cnt (nb (rsText f wl a b c d)) 58 = 1 := by
  rw [nb_text, cnt_append, cnt_none _ _ (text_head h), cnt_cons, cnt_none _ _ (sideN_no h.2.2.1 h.2.2.2.1 (by unfold sideC; omega) (by decide))]
theorem fore_star (f : Bool) (l : List Nat) : cnt (foreN f ++ l) 42 = cnt l 42 := by
  rw [cnt_append, cnt_none _ _ (by cases f <;> simp [foreN]), Nat.zero_add]
end Go.Proofs.YtnhegjjegamdfaaFmt
