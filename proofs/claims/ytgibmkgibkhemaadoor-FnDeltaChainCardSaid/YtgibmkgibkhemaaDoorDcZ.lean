/- deltaEncodeSize. -/
import Derived.Test.YtgibmkgibkhemaaDoorDcY
import Derived.Test.YtgibmkgibkhemaaDoorDcW
import Derived.Deep.AppendLies
import Derived.OwnWalk
namespace Go.Proofs.YtgibmkgibkhemaaDoor
open Go.RowKit
set_option linter.unusedSimpArgs false
set_option linter.unusedVariables false

theorem u8Inf2 : (Tryd.prog.info? 5).map (fun i => (i.zero, i.size, i.bytes)) = some (some (.int .u8 0), 1, 1) := by kernel_rfl
/-- Bytes that the call made. -/
def OwnB (w : World) (B : Nat) (v : Value) (L : List Nat) : Prop := w.ownsRow B 5 1 v L.length (u8s L)
theorem OwnB.nil (w : World) (B : Nat) : OwnB w B (.slice none 0 0) [] := World.ownsRow_nil _ _ _ _
theorem OwnB.more {w1 : World} {B g cap x : Nat} {L : List Nat}
    (hown : w1.ownsRow B 5 1 (.slice (some ⟨g, 0, none⟩) (L.length + 1) cap) (L.length + 1) (u8s L ++ [.int .u8 (x : Nat)])) :
    OwnB w1 B (.slice (some ⟨g, 0, none⟩) (L.length + 1) cap) (L ++ [x]) := by
  unfold OwnB
  rw [u8s_app, List.length_append]
  exact hown
theorem OwnB.slice {w : World} {B : Nat} {v : Value} {L : List Nat} (h : OwnB w B v L) (hL : 0 < L.length) : ∃ g cap, v = .slice (some ⟨g, 0, none⟩) L.length cap ∧ B ≤ g ∧ L.length ≤ cap ∧ cap ≤ maxLen ∧ g < w.heap.size ∧ ∀ i, i < L.length → w.cell? ⟨g, i, none⟩ = some (.int .u8 (L.getD i 0 : Nat)) := by
  obtain ⟨g, cap, hv, hc, hcell⟩ := own_u8s L (by unfold OwnB at h; rwa [← u8s_len] at h) hL
  rcases h.2 with ⟨_, h0⟩ | ⟨g', cap', cur, hv', hB, hg, hlc, hcm, _⟩
  · omega
  · rw [hv] at hv'
    simp only [Value.slice.injEq, Option.some.injEq, Addr.mk.injEq] at hv'
    obtain ⟨⟨rfl, _⟩, _, rfl⟩ := hv'
    exact ⟨g, cap, hv, hB, hc, hcm, Lib.lt_of_heap hg, hcell⟩
theorem news_u8 (w : World) (x : Int) : ∀ (j : Nat) (u : Value), [Value.int .u8 x][j]? = some u → (w.alloc (.cells #[.int .u8 x] 5)).cell? ((⟨w.heap.size, 0, none⟩ : Addr).add j) = some u := by
  intro j u hj
  match j, hj with
  | 0, hj =>
    simp at hj; subst hj
    exact World.cell?_alloc_mark w #[Value.int .u8 x] 5 (0, 0) 0
theorem one_u8 (x : Int) : ∀ u ∈ [Value.int .u8 x], u.oneCell' = true := by
  intro u hu; simp at hu; subst hu; rfl
theorem and127n (n : Nat) (h : n < 16384) : bits .and .i64 (n : Int) 127 = ((n % 128 : Nat) : Int) := by
  have h1 := i64_and_nat n 127 (by omega) (by decide)
  rw [Nat.and_two_pow_sub_one_eq_mod n 7] at h1
  exact h1
theorem or128n (c : Nat) (h : c < 128) : bits .or .i64 (c : Int) 128 = ((c + 128 : Nat) : Int) := by
  have h1 := i64_or_nat c 128 (by omega) (by decide)
  rw [Nat.or_comm, show (128 : Nat) = 2 ^ 7 * 1 by rfl, ← Nat.two_pow_add_eq_or_of_lt h 1] at h1
  rw [show c + 128 = 2 ^ 7 * 1 + c by omega]
  exact h1
def BytesPost (L : List Nat) (w : World) (e : Ending) (w' : World) : Prop := ∃ v, e = .returned v ∧ OwnB w' w.heap.size v L ∧ Below w.heap.size w w'
def SzRel (n : Nat) (w : World) (sv lv cv : Value) (wr : World) : Prop :=
  (sv = .int .i64 ((n / 128 : Nat) : Int) ∧ lv = .slice none 0 0 ∧ cv = .int .i64 ((n % 128 : Nat) : Int) ∧ wr = w) ∨
  (128 ≤ n ∧ sv = .int .i64 0 ∧ cv = .int .i64 ((n / 128 : Nat) : Int) ∧ OwnB wr w.heap.size lv [n % 128 + 128] ∧ Below w.heap.size w wr)
set_option maxRecDepth 100000 in
set_option maxHeartbeats 4000000 in
theorem encSize_any (n : Nat) (w : World) (hn : n ≤ 1000) : Calls Tryd.prog 37 #[.int .i64 (n : Nat)] w (BytesPost (lebE n) w) := by
  obtain ⟨i0, hi, hz0, hz1, hz2⟩ := info_parts u8Inf2
  have a1 := and127n n (by omega)
  have o1 := or128n (n % 128) (by omega)
  have a2 := and127n (n / 128) (by omega)
  rw [Nat.mod_eq_of_lt (show n / 128 < 128 by omega)] at a2
  have e1 : (n : Int) / 128 = ((n / 128 : Nat) : Int) := by omega
  obtain ⟨q, hq⟩ : ∃ q, q = n / 128 := ⟨_, rfl⟩
  obtain ⟨r, hr⟩ : ∃ r, r = n % 128 := ⟨_, rfl⟩
  rw [← hq] at a2 e1
  rw [← hr] at a1 o1
  have HQ := Lib.hid hq; have HR := Lib.hid hr
  have hq7 : q ≤ 7 := by omega
  have hr128 : r < 128 := by omega
  have hnq : n < 128 ↔ q = 0 := by omega
  have HNQ := Lib.hid hnq
  clear hq hr hnq
  go_enter Tryd.func37, Tryd.ntmps37
  go_wp2
  go_loopw [0, 3, 4] (fun sv lv cv wr => SzRel n w sv lv cv wr) (fun sv _ _ _ => (intOf sv).toNat)
  case atStart => exact .inl ⟨by rw [← HQ.out], rfl, by rw [← HR.out], rfl⟩
  case round =>
    rcases hrel with ⟨rfl, rfl, rfl, rfl⟩ | ⟨hn128, rfl, rfl, hown, hbel⟩
    · rw [← HQ.out, ← HR.out]
      by_cases hq0 : q = 0
      · have hz : ((q : Int) == 0) = true := beq_iff_eq.mpr (by omega)
        have HL : Hid (lebE n = [r]) := Lib.hid (by unfold lebE; rw [if_pos (HNQ.out.mpr hq0), HR.out, Nat.mod_eq_of_lt (HNQ.out.mpr hq0)])
        have HOWN := Lib.hid (OwnB.nil wr wr.heap.size)
        go_wp2_with (at_builtin; refine wpList_append_lies _ rfl (.tmp 21) (.tmp 24) 38 rfl wr.heap.size 5 i0 (.int .u8 0) 1 1 bytesKind hi hz0 hz1 hz2 rfl (by decide) _ _ _ rfl (World.ownsRow.alloc HOWN.out _) ⟨wr.heap.size, 0, none⟩ 1 1 [.int .u8 (r : Nat)] rfl rfl (news_u8 _ _) (one_u8 _) (by decide) ?c3 ?c4 ?c5 _ rfl ?_)
        case c3 => decide
        case c4 => decide
        case c5 => first | omega | (rw [heap_new_size]; omega)
        intro gg cap2 w4 hown4 hgrow _ _
        have R := Lib.hid (OwnB.more (L := []) hown4)
        have RB := Lib.hid (((Below.refl wr.heap.size wr).alloc (Nat.le_refl _) _).grown hgrow (by rw [heap_new_size]; omega) (fun q e => (HOWN.out.lt q e).1))
        clear hown4 hgrow
        go_wp2
        go_ret
        exact ⟨_, rfl, by rw [HL.out]; exact R.out, RB.out⟩
      · have hz : ((q : Int) == 0) = false := beq_eq_false_iff_ne.mpr (by omega)
        have hn128 : 128 ≤ n := by have := HNQ.out; omega
        have HOWN := Lib.hid (OwnB.nil wr wr.heap.size)
        have hr255 : r + 128 ≤ 255 := by omega
        go_wp2_with (at_builtin; refine wpList_append_lies _ rfl (.tmp 11) (.tmp 15) 38 rfl wr.heap.size 5 i0 (.int .u8 0) 1 1 bytesKind hi hz0 hz1 hz2 rfl (by decide) _ _ _ rfl (World.ownsRow.alloc HOWN.out _) ⟨wr.heap.size, 0, none⟩ 1 1 [.int .u8 ((r + 128 : Nat) : Int)] rfl rfl (news_u8 _ _) (one_u8 _) (by decide) ?c3 ?c4 ?c5 _ rfl ?_)
        case c3 => decide
        case c4 => decide
        case c5 => first | omega | (rw [heap_new_size]; omega)
        intro gg cap2 w4 hown4 hgrow _ _
        have R := Lib.hid (OwnB.more (L := []) hown4)
        have RB := Lib.hid (((Below.refl wr.heap.size wr).alloc (Nat.le_refl _) _).grown hgrow (by rw [heap_new_size]; omega) (fun q e => (HOWN.out.lt q e).1))
        clear hown4 hgrow
        go_wp2
        go_roundw
        case rel => exact .inr ⟨hn128, by congr 1; omega, by rw [HQ.out], by rw [← HR.out]; exact R.out, RB.out⟩
        case measure => simp [intOf] <;> omega
    · rw [← HQ.out]
      have HL : Hid (lebE n = [r + 128] ++ [q]) := Lib.hid (by unfold lebE; rw [if_neg (by omega), HR.out, HQ.out]; rfl)
      rw [← HR.out] at hown
      have HOWN := Lib.hid hown; have HB := Lib.hid hbel
      have hlen : ([r + 128] : List Nat).length = 1 := rfl
      clear hown hbel
      go_wp2_with (at_builtin; refine wpList_append_lies _ rfl (.tmp 21) (.tmp 24) 38 rfl w.heap.size 5 i0 (.int .u8 0) 1 1 bytesKind hi hz0 hz1 hz2 rfl (by decide) _ _ _ rfl (World.ownsRow.alloc HOWN.out _) ⟨wr.heap.size, 0, none⟩ 1 1 [.int .u8 (q : Nat)] rfl rfl (news_u8 _ _) (one_u8 _) (by decide) ?d3 ?d4 ?d5 _ rfl ?_)
      case d3 => rw [hlen]; decide
      case d4 => rw [hlen]; decide
      case d5 => have := HB.out.size; first | omega | (rw [heap_new_size]; omega)
      intro gg cap2 w4 hown4 hgrow _ _
      have R := Lib.hid (OwnB.more (L := [r + 128]) hown4)
      have RB := Lib.hid ((HB.out.alloc HB.out.size _).grown hgrow (by have := HB.out.size; rw [heap_new_size]; omega) (fun q e => (HOWN.out.lt q e).1))
      clear hown4 hgrow
      go_wp2
      go_ret
      exact ⟨_, rfl, by rw [HL.out]; exact R.out, RB.out⟩
end Go.Proofs.YtgibmkgibkhemaaDoor
