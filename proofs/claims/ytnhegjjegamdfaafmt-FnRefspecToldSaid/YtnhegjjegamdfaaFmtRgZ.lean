/- MatchAny and SpecsMatch of a row that holds one refspec's text at every place. -/
import Derived.Test.YtnhegjjegamdfaaFmtRgY
import Derived.Test.YtnhegjjegamdfaaFmtOwn
namespace Go.Proofs.YtnhegjjegamdfaaFmt
open Go.RowKit
set_option linter.unusedSimpArgs false
set_option linter.unusedVariables false

theorem specInfo : (Tryf.prog.info? 40).map (fun i => (i.zero, i.size, i.bytes)) = some (some (.string ⟨#[]⟩), 1, 16) := by kernel_rfl
theorem specsKind : Tryf.prog.underlying 53 = some (.slice 40) := by kernel_rfl
def OwnS (w : World) (B : Nat) (v : Value) (L : List ByteArray) : Prop := w.ownsRow B 40 1 v L.length (L.map Value.string)
theorem OwnS.nil (w : World) (B : Nat) : OwnS w B (.slice none 0 0) [] := World.ownsRow_nil _ _ _ _
theorem OwnS.strs {w : World} {B : Nat} {v : Value} {L : List ByteArray} (h : OwnS w B v L) : ∃ A c, v = .slice A L.length c ∧ L.length ≤ maxLen ∧ Strs w A L.length (fun i => L.getD i ⟨#[]⟩) := by
  rcases h.2 with ⟨rfl, h0⟩ | ⟨g, cap, cur, rfl, _, hg, hn, hm, _⟩
  · refine ⟨none, 0, by rw [h0], by omega, fun i hi => by omega⟩
  · refine ⟨_, cap, rfl, Nat.le_trans hn hm, fun i hi => ⟨g, 0, rfl, (Array.getElem?_eq_some_iff.1 hg).1, ?_⟩⟩
    have hc := h.cells (g := g) rfl i (.string (L.getD i ⟨#[]⟩)) (by simp [List.getD_eq_getElem?_getD, hi])
    have hadd : (⟨g, 0, none⟩ : Addr).add i = ⟨g, 0 + i, none⟩ := by unfold Addr.add; split <;> simp_all
    rwa [hadd] at hc
theorem OwnS.more {w1 : World} {B g cap : Nat} {L : List ByteArray} {s : ByteArray}
    (hown : w1.ownsRow B 40 1 (.slice (some ⟨g, 0, none⟩) (L.length + 1) cap) (L.length + 1) (L.map Value.string ++ [.string s])) :
    OwnS w1 B (.slice (some ⟨g, 0, none⟩) (L.length + 1) cap) (L ++ [s]) := by
  unfold OwnS
  rw [List.map_append, List.length_append]
  exact hown
theorem news_spec (w : World) (s : ByteArray) : ∀ (j : Nat) (u : Value), [Value.string s][j]? = some u → (w.alloc (.cells #[.string s] 40)).cell? ((⟨w.heap.size, 0, none⟩ : Addr).add j) = some u := by
  intro j u hj
  match j, hj with
  | 0, hj =>
    simp at hj; subst hj
    exact World.cell?_alloc_mark w #[Value.string s] 40 (0, 0) 0

set_option maxRecDepth 100000 in
set_option maxHeartbeats 1000000 in
theorem MatchAny_any (A : Option Addr) (n c : Nat) (t nm : ByteArray) (Q : Prop) (w : World) (hn : n ≤ 1000) (hA : Strs w A n (fun _ => t))
    (hm : ∀ w, Calls Tryf.prog 16 #[.string t, .string nm] w (BelowPostR Q w)) :
    Calls Tryf.prog 30 #[.slice A n c, .string nm] w (BelowPostR (0 < n ∧ Q) w) := by
  have H := Lib.hid hA; have HM := Lib.hid hm
  clear hA hm
  go_enter Tryf.func30, Tryf.ntmps30
  go_wp2
  go_loopw [9] (fun i wr => ∃ k : Nat, k ≤ n ∧ i = .int .i64 (k : Nat) ∧ (0 < k → ¬ Q) ∧ Below w.heap.size w wr) (fun i _ => n - (intOf i).toNat)
  case atStart => exact ⟨0, Nat.zero_le _, rfl, fun h => absurd h (by omega), Below.refl _ _⟩
  case round =>
    obtain ⟨k, hk, rfl, hall, hbel⟩ := hrel
    have HALL := Lib.hid hall; have HB := Lib.hid hbel
    clear hall hbel
    by_cases hlt : k < n
    · have hli : (k : Int) < n := by omega
      obtain ⟨b, off, rfl, hbl, hcell⟩ := (H.out.below HB.out).at k hlt
      go_wp2_with fail
      with_reducible refine (HM.out _).mono ?_
      rintro e w1 ⟨B, rfl, hB, hb1⟩
      have HB1 : Hid (Below w.heap.size w w1) := Lib.hid (HB.out.trans (hb1.mono HB.out.size))
      have HQ := Lib.hid hB
      clear hB hb1
      cases B with
      | true =>
        have HQT : Hid (0 < n ∧ Q) := Lib.hid ⟨by omega, HQ.out.mp rfl⟩
        go_wp2
        go_ret
        exact ⟨true, rfl, ⟨fun _ => HQT.out, fun _ => rfl⟩, HB1.out⟩
      | false =>
        have HN : Hid (¬ Q) := Lib.hid (fun h => by have := HQ.out.mpr h; cases this)
        go_wp2
        go_roundw
        case rel => exact ⟨k + 1, by omega, by go_num, fun _ => HN.out, HB1.out⟩
        case measure => simp [intOf]; omega
    · have hle : (n : Int) ≤ k := by omega
      have hkn : k = n := by omega
      go_wp2
      go_ret
      exact ⟨false, rfl, ⟨fun h => (by cases h), fun h => absurd h.2 (HALL.out (by omega))⟩, HB.out⟩

set_option maxRecDepth 100000 in
set_option maxHeartbeats 2000000 in
theorem SpecsMatch_any (A : Option Addr) (n c : Nat) (t nm : ByteArray) (X Y : List Nat) (Q : Prop) (w : World) (hn : n ≤ 1000) (hA : Strs w A n (fun _ => t)) (h : Spec1 t X Y)
    (hm : ∀ w, Calls Tryf.prog 16 #[.string t, .string nm] w (BelowPostR Q w)) :
    Calls Tryf.prog 14 #[.slice A n c, .string nm] w fun e w' => ∃ B : Bool, e = .returned (.tuple #[.bool B, .bool true]) ∧ (B = true ↔ (0 < n ∧ Q)) ∧ Below w.heap.size w w' := by
  have H := Lib.hid hA; have HM := Lib.hid hm
  have HV := Lib.hid (fun w => specValidate_any t X Y w h)
  obtain ⟨i0, hi, hz0, hz1, hz2⟩ := info_parts specInfo
  clear hA hm h
  go_enter Tryf.func14, Tryf.ntmps14
  go_wp2
  go_loopw [6, 11] (fun l i wr => ∃ k : Nat, k ≤ n ∧ i = .int .i64 (k : Nat) ∧ OwnS wr w.heap.size l (List.replicate k t) ∧ Below w.heap.size w wr) (fun _ i _ => n - (intOf i).toNat)
  case atStart => exact ⟨0, Nat.zero_le _, rfl, OwnS.nil _ _, Below.refl _ _⟩
  case round =>
    obtain ⟨k, hk, rfl, hown, hbel⟩ := hrel
    have HOWN := Lib.hid hown; have HB := Lib.hid hbel
    clear hown hbel
    by_cases hlt : k < n
    · have hli : (k : Int) < n := by omega
      obtain ⟨b, off, rfl, hbl, hcell⟩ := (H.out.below HB.out).at k hlt
      have hlen : (List.replicate k t).length = k := List.length_replicate
      go_wp2_with fail
      with_reducible refine (HV.out _).mono ?_
      rintro e w' ⟨rfl, rfl⟩
      go_wp2_with (at_builtin; refine wpList_append_lies _ rfl (.tmp 18) (.tmp 20) 53 rfl w.heap.size 40 i0 (.string ⟨#[]⟩) 1 16 specsKind hi hz0 hz1 hz2 rfl (by decide) _ _ _ rfl (World.ownsRow.alloc HOWN.out _) ⟨wr.heap.size, 0, none⟩ 1 1 [.string t] rfl rfl (news_spec _ _) (one_str _) (by decide) ?c3 ?c4 ?c5 _ rfl ?_)
      case c3 => unfold maxLen; omega
      case c4 => omega
      case c5 => have := HB.out.size; first | omega | (rw [heap_new_size]; omega)
      intro gg cap2 w4 hown4 hgrow _ _
      have R := Lib.hid (OwnS.more (L := List.replicate k t) (by rw [hlen, List.map_replicate]; exact hown4))
      have RB := Lib.hid ((HB.out.alloc HB.out.size _).grown hgrow (by have := HB.out.size; rw [heap_new_size]; omega) (fun q e => (HOWN.out.lt q e).1))
      clear hown4 hgrow
      go_wp2
      go_roundw
      case rel => exact ⟨k + 1, by omega, by go_num, by rw [List.replicate_succ']; have := R.out; rwa [hlen] at this, RB.out⟩
      case measure => simp [intOf]; omega
    · have hle : (n : Int) ≤ k := by omega
      obtain rfl : k = n := by omega
      obtain ⟨A2, c2, rfl, _, hstr⟩ := HOWN.out.strs
      rw [List.length_replicate] at hstr
      have HS2 : Hid (Strs wr A2 k (fun _ => t)) := Lib.hid (fun i hi => by
        obtain ⟨b, off, e, hb, hc⟩ := hstr i hi
        refine ⟨b, off, e, hb, hc.trans ?_⟩
        simp [List.getD_eq_getElem?_getD, List.getElem?_replicate, hi])
      have HMA := Lib.hid (MatchAny_any A2 k c2 t nm Q wr hn HS2.out HM.out)
      clear hstr
      have hlen : (List.replicate k t).length = k := List.length_replicate
      rw [hlen]
      go_wp2_with fail
      with_reducible refine (HMA.out).mono ?_
      rintro e w1 ⟨B, rfl, hB, hb1⟩
      have HB1 : Hid (Below w.heap.size w w1) := Lib.hid (HB.out.trans (hb1.mono HB.out.size))
      have HQ := Lib.hid hB
      clear hB hb1
      go_wp2
      go_ret2
      exact ⟨B, rfl, HQ.out, HB1.out⟩
end Go.Proofs.YtnhegjjegamdfaaFmt
