/- zzSplit at the strokes, spec.refParts. -/
import Derived.Test.YtnhegjjegamdfaaDoorRfA
namespace Go.Proofs.YtnhegjjegamdfaaDoor
open Go.RowKit
set_option linter.unusedSimpArgs false
set_option linter.unusedVariables false

def strLen (v : Value) : Nat := match v with | .string s => s.size | _ => 0
def PartsPost (s : ByteArray) (w : World) (e : Ending) (w' : World) : Prop :=
  ∃ v L, e = .returned v ∧ Own w' w.heap.size v L ∧ L.map nb = parts (nb s) ∧ L.length ≤ s.size + 1 ∧ Below w.heap.size w w'
theorem idx_no {r : ByteArray} (h : ¬ Has (nb r) (nb ⟨#[47]⟩)) : parts (nb r) = [nb r] := parts_one _ (fun hm => h ((mem_has _ 47).mp hm))
theorem idx_cut {r : ByteArray} {k : Nat} (hk : k + 1 ≤ r.size) (h1 : subAt r ⟨#[47]⟩ k = true) (h2 : ∀ j, j < k → subAt r ⟨#[47]⟩ j = false) :
    parts (nb r) = nb (r.extract 0 k) :: parts (nb (r.extract (k + 1) r.size)) := by
  obtain ⟨a, b, e, hl⟩ := (subAt_iff r ⟨#[47]⟩ k hk).mp h1
  have ha : 47 ∉ a := by
    intro hm
    obtain ⟨x, y, rfl⟩ := List.append_of_mem hm
    have hx : x.length < k := by rw [← hl]; simp
    have h3 : subAt r ⟨#[47]⟩ x.length = true := (subAt_iff r ⟨#[47]⟩ x.length (by show x.length + 1 ≤ _; omega)).mpr ⟨x, y ++ (nb ⟨#[47]⟩ ++ b), by rw [e]; simp [nb], rfl⟩
    rw [h2 _ hx] at h3; cases h3
  have hn : nb r = a ++ 47 :: b := by rw [e]; rfl
  have h4 : nb (r.extract 0 k) = a := by rw [nb_extract, List.drop_zero, Nat.sub_zero, hn, ← hl, List.take_left]
  have h5 : nb (r.extract (k + 1) r.size) = b := by
    rw [nb_tail, hn, ← hl, show a ++ 47 :: b = (a ++ [47]) ++ b by simp, show a.length + 1 = (a ++ [47]).length by simp, List.drop_left]
  rw [hn, parts_cut a b ha, h4, h5]
theorem cut_go {L : List ByteArray} {a : ByteArray} {P Q : List (List Nat)} {R : List (List Nat)} (h : L.map nb ++ P = Q) (h2 : P = nb a :: R) : (L ++ [a]).map nb ++ R = Q := by
  rw [← h, h2]; simp

set_option maxRecDepth 100000 in
set_option maxHeartbeats 2000000 in
theorem zzSplit_any (s : ByteArray) (w : World) (hs : s.size ≤ 10000) :
    Calls Tryd.prog 26 #[.string s, .string ⟨#[47]⟩] w (PartsPost s w) := by
  obtain ⟨i0, hi, hz0, hz1, hz2⟩ := info_parts strInfo
  go_enter Tryd.func26, Tryd.ntmps26
  go_wp2
  go_loopw [0, 5, 8] (fun sv l i wr => ∃ r L, sv = .string r ∧ L.length + r.size ≤ s.size ∧ L.map nb ++ parts (nb r) = parts (nb s) ∧ Own wr w.heap.size l L ∧ Below w.heap.size w wr) (fun sv _ _ _ => strLen sv)
  case atStart => exact ⟨s, [], rfl, by simp, rfl, Own.nil _ _, Below.refl _ _⟩
  case round =>
    obtain ⟨r, L, rfl, hlen, hcut, hown, hbel⟩ := hrel
    have HC := Lib.hid hcut; have HOWN := Lib.hid hown; have HB := Lib.hid hbel
    clear hcut hown hbel
    go_wp2_with fail
    with_reducible refine (zzIndex_any r ⟨#[47]⟩ _ (by omega) (by decide)).mono ?_
    rintro e w' ⟨ix, rfl, hix, rfl⟩
    rcases hix with ⟨rfl, hno⟩ | ⟨k, rfl, hk, h1, h2⟩
    · have HN := Lib.hid (cut_go HC.out (idx_no hno))
      clear hno
      go_wp2_with (at_builtin; refine wpList_append_lies _ rfl (.tmp 42) (.tmp 44) 27 rfl w.heap.size 9 i0 (.string ⟨#[]⟩) 1 16 strsKind hi hz0 hz1 hz2 rfl (by decide) _ _ _ rfl (World.ownsRow.alloc HOWN.out _) ⟨wr.heap.size, 0, none⟩ 1 1 [.string r] rfl rfl (news_str _ _) (one_str _) (by decide) ?c3 ?c4 ?c5 _ rfl ?_)
      case c3 => unfold maxLen; omega
      case c4 => omega
      case c5 => have := HB.out.size; first | omega | (rw [heap_new_size]; omega)
      intro gg cap2 w4 hown4 hgrow _ _
      have R := Lib.hid (Own.more hown4)
      have RB := Lib.hid ((HB.out.alloc HB.out.size _).grown hgrow (by have := HB.out.size; rw [heap_new_size]; omega) (fun q e => (HOWN.out.lt q e).1))
      clear hown4 hgrow
      go_wp2
      go_ret
      exact ⟨_, _, rfl, R.out, by have := HN.out; rwa [List.append_nil] at this, by rw [List.length_append]; simp; omega, RB.out⟩
    · have hk1 : k + 1 ≤ r.size := hk
      have HN := Lib.hid (cut_go HC.out (idx_cut hk1 h1 h2))
      clear h1 h2 hk
      have hz : (r.extract (k + 1) r.size).size = r.size - (k + 1) := size_tail r (k + 1)
      have HZ := Lib.hid hz; clear hz
      have k0 : (0 : Int) ≤ k := by omega
      have k1 : (k : Int) + 1 ≤ r.size := by omega
      go_wp2_with (at_builtin; refine wpList_append_lies _ rfl (.tmp 46) (.tmp 50) 27 rfl w.heap.size 9 i0 (.string ⟨#[]⟩) 1 16 strsKind hi hz0 hz1 hz2 rfl (by decide) _ _ _ rfl (World.ownsRow.alloc HOWN.out _) ⟨wr.heap.size, 0, none⟩ 1 1 [.string (r.extract 0 k)] rfl rfl (news_str _ _) (one_str _) (by decide) ?d3 ?d4 ?d5 _ rfl ?_)
      case d3 => unfold maxLen; omega
      case d4 => omega
      case d5 => have := HB.out.size; first | omega | (rw [heap_new_size]; omega)
      intro gg cap2 w4 hown4 hgrow _ _
      have R := Lib.hid (Own.more hown4)
      have RB := Lib.hid ((HB.out.alloc HB.out.size _).grown hgrow (by have := HB.out.size; rw [heap_new_size]; omega) (fun q e => (HOWN.out.lt q e).1))
      clear hown4 hgrow
      go_wp2
      go_roundw
      case rel => exact ⟨_, _, rfl, by rw [HZ.out, List.length_append]; simp; omega, HN.out, R.out, RB.out⟩
      case measure => simp only [strLen]; rw [HZ.out]; omega

theorem drop_next (s : ByteArray) (x k : Nat) (hk : k < s.size) (hxk : x ≤ k) : ((nb s).drop x).take (k + 1 - x) = ((nb s).drop x).take (k - x) ++ [bx s k] := by
  rw [show k + 1 - x = (k - x) + 1 by omega, List.take_succ_eq_append_getElem (by rw [List.length_drop, nb_length]; omega), List.getElem_drop]
  congr 2
  rw [bx_getElem]
  congr 1; omega
theorem drop_go {s : ByteArray} {x k : Nat} (hk : k < s.size) (hxk : x ≤ k) (h : bx s k ≠ 47) (hno : 47 ∉ ((nb s).drop x).take (k - x)) : 47 ∉ ((nb s).drop x).take (k + 1 - x) := by
  rw [drop_next s x k hk hxk]
  intro hm
  rcases List.mem_append.mp hm with hm | hm
  · exact hno hm
  · exact h (by simpa using hm : (47 : Nat) = bx s k).symm
theorem drop_stroke {s : ByteArray} {x k : Nat} (hk : k < s.size) (hxk : x ≤ k) (h : bx s k = 47) (hno : 47 ∉ ((nb s).drop x).take (k - x)) : parts ((nb s).drop x) = nb (s.extract x k) :: parts ((nb s).drop (k + 1)) := by
  have e : (nb s).drop x = ((nb s).drop x).take (k - x) ++ 47 :: (nb s).drop (k + 1) := by
    have h1 := List.take_append_drop (k + 1 - x) ((nb s).drop x)
    rw [drop_next s x k hk hxk, h, List.drop_drop, show x + (k + 1 - x) = k + 1 by omega] at h1
    exact h1.symm.trans (by rw [List.append_assoc]; rfl)
  rw [nb_extract]
  conv => lhs; rw [e]
  exact parts_cut _ _ hno
theorem drop_end {s : ByteArray} {x k : Nat} (hk : ¬ k < s.size) (hks : k ≤ s.size) (hno : 47 ∉ ((nb s).drop x).take (k - x)) : parts ((nb s).drop x) = nb (s.extract x s.size) :: [] := by
  have e : k = s.size := by omega
  subst e
  rw [List.take_of_length_le (by rw [List.length_drop, nb_length]; omega)] at hno
  rw [nb_tail, parts_one _ hno]

set_option maxRecDepth 100000 in
set_option maxHeartbeats 2000000 in
theorem refParts_any (s : ByteArray) (w : World) (hs : s.size ≤ 10000) :
    Calls Tryd.prog 19 #[.string s] w (PartsPost s w) := by
  obtain ⟨i0, hi, hz0, hz1, hz2⟩ := info_parts strInfo
  go_enter Tryd.func19, Tryd.ntmps19
  go_wp2
  go_loopw [3, 4, 5, 8] (fun l a i c wr => ∃ x k L, a = .int .i64 (x : Nat) ∧ c = .int .i64 (k : Nat) ∧ x ≤ k ∧ k ≤ s.size ∧ L.length ≤ k ∧ L.map nb ++ parts ((nb s).drop x) = parts (nb s) ∧ 47 ∉ ((nb s).drop x).take (k - x) ∧ Own wr w.heap.size l L ∧ Below w.heap.size w wr) (fun _ _ _ c _ => s.size - (intOf c).toNat)
  case atStart => exact ⟨0, 0, [], rfl, rfl, Nat.le_refl _, Nat.zero_le _, Nat.le_refl _, rfl, by simp, Own.nil _ _, Below.refl _ _⟩
  case round =>
    obtain ⟨x, k, L, rfl, rfl, hxk, hks, hlen, hcut, hno, hown, hbel⟩ := hrel
    have HC := Lib.hid hcut; have HNO := Lib.hid hno; have HOWN := Lib.hid hown; have HB := Lib.hid hbel
    clear hcut hno hown hbel
    by_cases hk : k < s.size
    · have hki : (k : Int) < s.size := by omega
      have hb := bx_get s k hk
      by_cases h47 : bx s k = 47
      · rw [h47] at hb
        have HN := Lib.hid (cut_go HC.out (drop_stroke hk hxk h47 HNO.out))
        clear h47
        go_wp2_with (at_builtin; refine wpList_append_lies _ rfl (.tmp 15) (.tmp 20) 27 rfl w.heap.size 9 i0 (.string ⟨#[]⟩) 1 16 strsKind hi hz0 hz1 hz2 rfl (by decide) _ _ _ rfl (World.ownsRow.alloc HOWN.out _) ⟨wr.heap.size, 0, none⟩ 1 1 [.string (s.extract x k)] rfl rfl (news_str _ _) (one_str _) (by decide) ?c3 ?c4 ?c5 _ rfl ?_)
        case c3 => unfold maxLen; omega
        case c4 => omega
        case c5 => have := HB.out.size; first | omega | (rw [heap_new_size]; omega)
        intro gg cap2 w4 hown4 hgrow _ _
        have R := Lib.hid (Own.more hown4)
        have RB := Lib.hid ((HB.out.alloc HB.out.size _).grown hgrow (by have := HB.out.size; rw [heap_new_size]; omega) (fun q e => (HOWN.out.lt q e).1))
        clear hown4 hgrow
        go_wp2
        go_roundw
        case rel => exact ⟨k + 1, k + 1, _, by go_num, by go_num, Nat.le_refl _, by omega, by rw [List.length_append]; simp; omega, HN.out, by simp, R.out, RB.out⟩
        case measure => simp [intOf]; omega
      · have q : ((bx s k : Int) == 47) = false := beq_eq_false_iff_ne.mpr (by omega)
        have HN := Lib.hid (drop_go hk hxk h47 HNO.out)
        generalize bx s k = c at hb q
        clear h47
        go_wp2
        go_roundw
        case rel => exact ⟨x, k + 1, L, rfl, by go_num, by omega, by omega, by omega, HC.out, HN.out, HOWN.out, HB.out⟩
        case measure => simp [intOf]; omega
    · have hki : (s.size : Int) ≤ k := by omega
      have HN := Lib.hid (cut_go HC.out (drop_end hk hks HNO.out))
      have hxs : x ≤ s.size := by omega
      go_wp2_with (at_builtin; refine wpList_append_lies _ rfl (.tmp 25) (.tmp 29) 27 rfl w.heap.size 9 i0 (.string ⟨#[]⟩) 1 16 strsKind hi hz0 hz1 hz2 rfl (by decide) _ _ _ rfl (World.ownsRow.alloc HOWN.out _) ⟨wr.heap.size, 0, none⟩ 1 1 [.string (s.extract x s.size)] rfl rfl (news_str _ _) (one_str _) (by decide) ?d3 ?d4 ?d5 _ rfl ?_)
      case d3 => unfold maxLen; omega
      case d4 => omega
      case d5 => have := HB.out.size; first | omega | (rw [heap_new_size]; omega)
      intro gg cap2 w4 hown4 hgrow _ _
      have R := Lib.hid (Own.more hown4)
      have RB := Lib.hid ((HB.out.alloc HB.out.size _).grown hgrow (by have := HB.out.size; rw [heap_new_size]; omega) (fun q e => (HOWN.out.lt q e).1))
      clear hown4 hgrow
      go_wp2
      go_ret
      exact ⟨_, _, rfl, R.out, by have := HN.out; rwa [List.append_nil] at this, by rw [List.length_append]; simp; omega, RB.out⟩
end Go.Proofs.YtnhegjjegamdfaaDoor
