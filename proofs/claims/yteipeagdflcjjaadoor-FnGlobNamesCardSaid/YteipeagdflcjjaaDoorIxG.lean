/- index's Glob, and impl.GlobNames over it. -/
import Derived.Test.YteipeagdflcjjaaDoorIdxR
import Derived.Test.YteipeagdflcjjaaDoorIxM
namespace Go.Proofs.YteipeagdflcjjaaDoor.Ix
open Go.RowKit
set_option linter.unusedSimpArgs false
set_option linter.unusedVariables false

def ptr (b : Nat) : Value := .pointer (some ⟨b, 0, none⟩)
def Ptrs (w : World) (B : Nat) (v : Value) (L : List Nat) : Prop := w.ownsRow B 71 1 v L.length (L.map ptr)
theorem Ptrs.nil (w : World) (B : Nat) : Ptrs w B (.slice none 0 0) [] := World.ownsRow_nil _ _ _ _
theorem Ptrs.more {w1 : World} {B g cap : Nat} {L : List Nat} {b : Nat}
    (hown : w1.ownsRow B 71 1 (.slice (some ⟨g, 0, none⟩) (L.length + 1) cap) (L.length + 1) (L.map ptr ++ [ptr b])) :
    Ptrs w1 B (.slice (some ⟨g, 0, none⟩) (L.length + 1) cap) (L ++ [b]) := by
  unfold Ptrs
  rw [List.map_append, List.length_append]
  exact hown
theorem Ptrs.below {w w1 : World} {B : Nat} {v : Value} {L : List Nat} (h : Ptrs w B v L) (hb : Below w.heap.size w w1) : Ptrs w1 B v L := by
  refine ⟨h.1, ?_⟩
  rcases h.2 with hn | ⟨g, cap, cur, rfl, hbg, hgg, rest⟩
  · exact .inl hn
  · exact .inr ⟨g, cap, cur, rfl, hbg, by rw [hb.block g (Array.getElem?_eq_some_iff.1 hgg).1]; exact hgg, rest⟩
theorem Ptrs.form {w : World} {B : Nat} {v : Value} {L : List Nat} (h : Ptrs w B v L) : ∃ A c, v = .slice A L.length c ∧ L.length ≤ maxLen ∧ ∀ k, k < L.length → ∃ b, A = some ⟨b, 0, none⟩ ∧ b < w.heap.size ∧ w.cell? ⟨b, k, none⟩ = some (ptr (L.getD k 0)) := by
  rcases h.2 with ⟨rfl, h0⟩ | ⟨g, cap, cur, rfl, _, hg, hn, hm, _⟩
  · exact ⟨none, 0, by rw [h0], by omega, fun k hk => by omega⟩
  · refine ⟨_, cap, rfl, Nat.le_trans hn hm, fun k hk => ⟨g, rfl, (Array.getElem?_eq_some_iff.1 hg).1, ?_⟩⟩
    have hc := h.cells (g := g) rfl k (ptr (L.getD k 0)) (by simp [List.getD_eq_getElem?_getD, hk])
    have hadd : (⟨g, 0, none⟩ : Addr).add k = ⟨g, k, none⟩ := by unfold Addr.add; split <;> simp_all
    rwa [hadd] at hc
def hits (k : Nat) (f : Nat → ByteArray) (G : ByteArray → Bool) : List Nat := (List.range k).filter fun j => G (f j)
theorem hits_hit {k : Nat} {f : Nat → ByteArray} {G : ByteArray → Bool} (h : G (f k) = true) : hits (k + 1) f G = hits k f G ++ [k] := by
  unfold hits
  rw [List.range_succ, List.filter_append]
  simp [h]
theorem hits_miss {k : Nat} {f : Nat → ByteArray} {G : ByteArray → Bool} (h : G (f k) = false) : hits (k + 1) f G = hits k f G := by
  unfold hits
  rw [List.range_succ, List.filter_append]
  simp [h]
theorem hits_le (k : Nat) (f : Nat → ByteArray) (G : ByteArray → Bool) : (hits k f G).length ≤ k :=
  Nat.le_trans (List.length_filter_le _ _) (by simp)
theorem hits_lt {k : Nat} {f : Nat → ByteArray} {G : ByteArray → Bool} (i : Nat) (h : i < (hits k f G).length) : (hits k f G).getD i 0 < k := by
  rw [List.getD_eq_getElem?_getD, List.getElem?_eq_getElem h]
  have := List.getElem_mem h
  unfold hits at this
  exact List.mem_range.mp (List.mem_filter.mp this).1
theorem news_ptr (w : World) (b : Nat) : ∀ (j : Nat) (u : Value), [ptr b][j]? = some u → (w.alloc (.cells #[ptr b] 71)).cell? ((⟨w.heap.size, 0, none⟩ : Addr).add j) = some u := by
  intro j u hj
  match j, hj with
  | 0, hj =>
    simp at hj; subst hj
    exact World.cell?_alloc_mark w _ 71 (0, 0) 0
theorem one_ptr (b : Nat) : ∀ u ∈ [ptr b], u.oneCell' = true := by
  intro u hu; simp at hu; subst hu; rfl

def GlobRes (n : Nat) (f : Nat → ByteArray) (G : ByteArray → Bool) (en : Nat → Nat) (w : World) (e : Ending) (w' : World) : Prop :=
  ∃ v, e = .returned (.tuple #[v, .nilIface]) ∧ Ptrs w' w.heap.size v ((hits n f G).map en) ∧ Below w.heap.size w w'

set_option maxRecDepth 100000 in
set_option maxHeartbeats 4000000 in
theorem glob_any (B I n cap : Nat) (A0 : Option Addr) (f : Nat → ByteArray) (en : Nat → Nat) (pb : ByteArray) (G : ByteArray → Bool) (w : World) (hn : n ≤ 1000) (h : Idx w B I n f (fun _ => false) (.slice A0 n cap) en)
    (hm : ∀ j, j < n → ∀ W, Calls Tryd.prog 53 #[.string pb, .string (f j)] W (MPost (G (f j)) W)) :
    Calls Tryd.prog 37 #[.pointer (some ⟨I, 0, none⟩), .string pb] w (GlobRes n f G en w) := by
  have hfield := h.field
  have H := Lib.hid h; have HM := Lib.hid hm
  clear h hm
  obtain ⟨i0, hi, hz0, hz1, hz2⟩ := info_parts entryPtrInfo
  go_enter Tryd.func37, Tryd.ntmps37
  go_wp2
  clear hfield
  go_loopw [4, 5, 15] (fun l er i wr => ∃ k : Nat, k ≤ n ∧ er = .nilIface ∧ i = .int .i64 k ∧ Ptrs wr w.heap.size l ((hits k f G).map en) ∧ Below w.heap.size w wr) (fun _ _ i _ => n - (intOf i).toNat)
  case atStart => exact ⟨0, Nat.zero_le _, rfl, rfl, Ptrs.nil _ _, Below.refl _ _⟩
  case round =>
    obtain ⟨k, hk, rfl, rfl, hown, hbel⟩ := hrel
    have HOWN := Lib.hid hown
    have HBW := Lib.hid hbel
    by_cases hlt : k < n
    · obtain ⟨ga, rfl, hc1, hc2, hc3, hfr, hBe⟩ := (H.out.below hbel).rd k hlt
      have hle := hits_le k f G
      clear hown hbel hfr hBe hc3
      go_wp2_with fail
      with_reducible refine (HM.out k hlt _).mono ?_
      rintro e w2 ⟨rfl, hb2⟩
      have HB2 : Hid (Below w.heap.size w w2) := Lib.hid (HBW.out.trans (hb2.mono HBW.out.size))
      have HO2 : Hid (Ptrs w2 w.heap.size u4 ((hits k f G).map en)) := Lib.hid (HOWN.out.below hb2)
      clear hb2 hc1 hc2 HBW HOWN
      cases hG : G (f k) with
      | false =>
        have HR : Hid (Ptrs w2 w.heap.size u4 ((hits (k + 1) f G).map en)) := Lib.hid (by rw [hits_miss hG]; exact HO2.out)
        clear hG
        go_wp2
        go_roundw
        case rel => exact ⟨k + 1, by omega, rfl, by go_num, HR.out, HB2.out⟩
        case measure => simp [intOf]; omega
      | true =>
        have hle2 : ((hits k f G).map en).length ≤ k := by rw [List.length_map]; exact hle
        have HNEXT : Hid ((hits (k + 1) f G).map en = (hits k f G).map en ++ [en k]) := Lib.hid (by rw [hits_hit hG, List.map_append]; rfl)
        clear hG hle
        generalize (hits k f G).map en = PL at HO2 hle2 HNEXT
        go_wp2_with (at_builtin; refine wpList_append_lies _ rfl (.tmp 32) (.tmp 34) 64 rfl w.heap.size 71 i0 (.pointer none) 1 8 entryPtrsKind hi hz0 hz1 hz2 rfl (by decide) _ _ _ rfl (World.ownsRow.alloc HO2.out _) ⟨w2.heap.size, 0, none⟩ 1 1 [ptr (en k)] rfl rfl (news_ptr _ _) (one_ptr _) (by decide) ?c3 ?c4 ?c5 _ rfl ?_)
        case c3 => unfold maxLen; omega
        case c4 => omega
        case c5 => have := HB2.out.size; rw [heap_new_size]; omega
        intro gg cap2 w4 hown4 hgrow _ _
        have R : Ptrs w4 w.heap.size (.slice (some ⟨gg, 0, none⟩) (PL.length + 1) cap2) ((hits (k + 1) f G).map en) := by rw [HNEXT.out]; exact Ptrs.more hown4
        have RB : Below w.heap.size w w4 := (HB2.out.alloc HB2.out.size _).grown hgrow (by have := HB2.out.size; rw [heap_new_size]; omega) (fun q e => (HO2.out.lt q e).1)
        have HR := Lib.hid R
        have HRB := Lib.hid RB
        clear R RB hown4 hgrow
        go_wp2
        go_roundw
        case rel => exact ⟨k + 1, by omega, rfl, by go_num, HR.out, HRB.out⟩
        case measure => simp [intOf]; omega
    · obtain rfl : k = n := by omega
      clear hown hbel
      go_wp2
      go_ret2
      exact ⟨_, rfl, HOWN.out, HBW.out⟩

theorem word_nil (w : World) : Calls Tryd.prog 38 #[.nilIface] w fun e w' => e = .returned (.string ⟨#[]⟩) ∧ w = w' := by
  go_enter Tryd.func38, Tryd.ntmps38
  go_wp2
  go_ret
  exact ⟨rfl, rfl⟩

def NamesRes (n : Nat) (f : Nat → ByteArray) (G : ByteArray → Bool) (w : World) (e : Ending) (w' : World) : Prop :=
  ∃ v, e = .returned (.tuple #[v, .string ⟨#[]⟩]) ∧ Own w' w.heap.size v ((hits n f G).map f) ∧ Below w.heap.size w w'
theorem take_more {J : List Nat} {k : Nat} (h : k < J.length) : J.take (k + 1) = J.take k ++ [J.getD k 0] := by
  rw [List.take_add_one, List.getD_eq_getElem?_getD, List.getElem?_eq_getElem h]; rfl
set_option maxRecDepth 100000 in
set_option maxHeartbeats 4000000 in
theorem globNames_any (A : Option Addr) (n c : Nat) (f : Nat → ByteArray) (pb : ByteArray) (G : ByteArray → Bool) (w : World) (hn : n ≤ 1000) (h1 : Strs w A n f)
    (hm : ∀ j, j < n → ∀ W, Calls Tryd.prog 53 #[.string pb, .string (f j)] W (MPost (G (f j)) W)) :
    Calls Tryd.prog 17 #[.slice A n c, .string pb] w (NamesRes n f G w) := by
  have H1 := Lib.hid h1; have HM := Lib.hid hm
  clear h1 hm
  go_enter Tryd.func17, Tryd.ntmps17
  go_wp2_with fail
  with_reducible refine (named_any _ _ _ f _ hn H1.out).mono ?_
  rintro e w1 ⟨v, en, rfl, hidx, hb1⟩
  obtain ⟨A0, cap, rfl, _⟩ := hidx.form
  have HI := Lib.hid hidx
  have HB1 := Lib.hid hb1
  clear hidx hb1
  go_wp2_with fail
  with_reducible refine (glob_any _ _ _ _ _ f en pb G w1 hn HI.out HM.out).mono ?_
  rintro e w2 ⟨v, rfl, hptr, hb2⟩
  obtain ⟨A2, c2, rfl, hlen, hrow⟩ := hptr.form
  have HROW := Lib.hid hrow
  have HI2 : Hid (Idx w2 w.heap.size w.heap.size n f (fun _ => false) (.slice A0 n cap) en) := Lib.hid (HI.out.below hb2)
  have HB2 : Hid (Below w.heap.size w w2) := Lib.hid (HB1.out.trans (hb2.mono HB1.out.size))
  rw [List.length_map] at hlen
  have HJN := Lib.hid (hits_le n f G)
  have HJL : Hid (((hits n f G).map en).length = (hits n f G).length) := Lib.hid (List.length_map _)
  have HJ2 : Hid (∀ k, k < (hits n f G).length → (hits n f G).getD k 0 < n ∧ ((hits n f G).map en).getD k 0 = en ((hits n f G).getD k 0)) := Lib.hid fun k hlt => ⟨hits_lt k hlt, by
    rw [List.getD_eq_getElem?_getD, List.getD_eq_getElem?_getD, List.getElem?_map, List.getElem?_eq_getElem hlt]; rfl⟩
  generalize hJ : hits n f G = J at HROW HJN HJL HJ2 hlen ⊢
  have HJ := Lib.hid hJ
  generalize J.map en = PL at HROW HJL HJ2 hlen ⊢
  have hJl := HJL.out
  clear hptr hrow hb2 HI HB1 hJ
  rw [hJl]
  have hJn := HJN.out
  generalize hm : J.length = m at *
  have HM0 := Lib.hid hm; clear hm hJl
  go_wp2
  obtain ⟨i0, hi, hz0, hz1, hz2⟩ := info_parts strInfo
  go_loopw [4, 19] (fun l i wr => ∃ (k : Nat) (NL : List ByteArray), k ≤ m ∧ i = .int .i64 k ∧ NL = (J.take k).map f ∧ NL.length ≤ k ∧ Own wr w2.heap.size l NL ∧ Below w2.heap.size w2 wr) (fun _ i _ => m - (intOf i).toNat)
  case atStart => exact ⟨0, [], Nat.zero_le _, rfl, rfl, Nat.le_refl _, Own.nil _ _, Below.refl _ _⟩
  case round =>
    obtain ⟨k, NL, hk, rfl, hNL, hle2, hown, hbel⟩ := hrel
    have HNL := Lib.hid hNL
    have HOWN := Lib.hid hown
    have HBW := Lib.hid hbel
    clear hNL
    by_cases hlt : k < m
    · obtain ⟨b, rfl, hblt, hc1⟩ := HROW.out k (by rw [HJL.out]; exact hlt)
      obtain ⟨hj, hgd⟩ := HJ2.out k hlt
      rw [hgd] at hc1
      have hc1 : wr.cell? ⟨b, k, none⟩ = some (.pointer (some ⟨en (J.getD k 0), 0, none⟩)) := (hbel.cell (p := ⟨b, k, none⟩) hblt).trans hc1
      obtain ⟨_, _, _, hc2, _⟩ := (HI2.out.below hbel).rd _ hj
      have HT : Hid ((J.take (k + 1)).map f = NL ++ [f (J.getD k 0)]) := Lib.hid (by rw [HNL.out, take_more (by rw [HM0.out]; exact hlt), List.map_append]; rfl)
      generalize J.getD k 0 = j at *
      clear hown hbel hgd hj
      go_wp2_with (at_builtin; refine wpList_append_lies _ rfl (.tmp 23) (.tmp 28) 23 rfl w2.heap.size 9 i0 (.string ⟨#[]⟩) 1 16 strsKind hi hz0 hz1 hz2 rfl (by decide) _ _ _ rfl (World.ownsRow.alloc HOWN.out _) ⟨wr.heap.size, 0, none⟩ 1 1 [.string (f j)] rfl rfl (news_str _ _) (one_str _) (by decide) ?c3 ?c4 ?c5 _ rfl ?_)
      case c3 => unfold maxLen; omega
      case c4 => omega
      case c5 => have := HBW.out.size; rw [heap_new_size]; omega
      intro gg cap2 w4 hown4 hgrow _ _
      have R : Own w4 w2.heap.size (.slice (some ⟨gg, 0, none⟩) (NL.length + 1) cap2) ((J.take (k + 1)).map f) := by rw [HT.out]; exact Own.more hown4
      have RB : Below w2.heap.size w2 w4 := (HBW.out.alloc HBW.out.size _).grown hgrow (by have := HBW.out.size; rw [heap_new_size]; omega) (fun q e => (HOWN.out.lt q e).1)
      have HR := Lib.hid R
      have HRB := Lib.hid RB
      have HL2 : Hid (((J.take (k + 1)).map f).length ≤ k + 1) := Lib.hid (by rw [HT.out, List.length_append]; simp; omega)
      clear R RB hown4 hgrow
      go_wp2
      go_roundw
      case rel => exact ⟨k + 1, (J.take (k + 1)).map f, by omega, by go_num, rfl, HL2.out, HR.out, HRB.out⟩
      case measure => simp [intOf]; omega
    · obtain rfl : k = m := by omega
      have HFIN : Hid (Own wr w.heap.size u4 (J.map f)) := Lib.hid (by
        have := HOWN.out.mono HB2.out.size
        rw [HNL.out, ← HM0.out, List.take_length] at this
        exact this)
      clear hown hbel
      go_wp2_with fail
      with_reducible refine (word_nil _).mono ?_
      rintro e w5 ⟨rfl, rfl⟩
      go_wp2
      go_ret2
      exact ⟨_, rfl, by rw [HJ.out]; exact HFIN.out, HB2.out.trans (HBW.out.mono HB2.out.size)⟩
end Go.Proofs.YteipeagdflcjjaaDoor.Ix
