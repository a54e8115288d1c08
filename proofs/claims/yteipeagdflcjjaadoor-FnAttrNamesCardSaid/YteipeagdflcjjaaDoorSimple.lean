/- simpleNameMatch. -/
import Derived.Test.YteipeagdflcjjaaDoorMatch
import Derived.Test.YteipeagdflcjjaaDoorParse
namespace Go.Proofs.YteipeagdflcjjaaDoor
open Go.RowKit
set_option linter.unusedSimpArgs false
set_option linter.unusedVariables false

open Classical in
noncomputable def toksOf (s : ByteArray) : List Tok := if h : GoodPart s then Classical.choose h else []
theorem toks_spec {s : ByteArray} (h : GoodPart s) : nb s = texts (toksOf s) ∧ (∀ t ∈ toksOf s, Tok.good t) ∧ 1 ≤ s.size ∧ s.size ≤ 10 := by
  unfold toksOf
  rw [dif_pos h]
  exact Classical.choose_spec h
noncomputable def Mt (p e : ByteArray) : Bool := gm ((toksOf p).length + 1) (toksOf p) (nb e)
theorem match_any (p s : ByteArray) (w : World) (hp : GoodPart p) (hn : Nm s) : Calls Tryd.prog 131 #[.string p, .string s] w (MatchPost (Mt p s) w) := by
  obtain ⟨h1, h2, _, h4⟩ := toks_spec hp
  exact zzMatch_any (toksOf p) p s w h1 h2 (by omega) hn

def pathL (f : Nat → ByteArray) (n : Nat) : List ByteArray := (List.range n).map f
theorem pathL_drop (f : Nat → ByteArray) (n k : Nat) (h : k < n) : (pathL f n).drop k = f k :: (pathL f n).drop (k + 1) := by
  have hl : (pathL f n).length = n := by unfold pathL; rw [List.length_map, List.length_range]
  rw [List.drop_eq_getElem_cons (by rw [hl]; exact h)]
  congr 1
  unfold pathL
  simp
theorem pathL_end (f : Nat → ByteArray) (n k : Nat) (h : n ≤ k) : (pathL f n).drop k = [] := List.drop_eq_nil_of_le (by unfold pathL; rw [List.length_map, List.length_range]; exact h)
theorem pathL_empty (f : Nat → ByteArray) (n k : Nat) : ((pathL f n).drop k).isEmpty = decide (n ≤ k) := by
  by_cases h : n ≤ k
  · rw [pathL_end f n k h, decide_eq_true h]; rfl
  · rw [pathL_drop f n k (by omega), decide_eq_false h]; rfl

def BoolBelow (b : Bool) (w : World) (e : Ending) (w' : World) : Prop := e = .returned (.bool b) ∧ Below w.heap.size w w'

set_option maxRecDepth 100000 in
set_option maxHeartbeats 4000000 in
theorem simple_any (b : Nat) (PL : List ByteArray) (behind isDir : Bool) (A : Option Addr) (n c : Nat) (f : Nat → ByteArray) (w : World)
    (ho : PatObj w b PL behind) (h1 : PL.length = 1) (hg : GoodPart (PL.getD 0 ⟨#[]⟩)) (hn : n ≤ 100) (hp : Strs w A n f) (hnm : ∀ i, i < n → NameOk (f i)) :
    Calls Tryd.prog 130 #[.pointer (some ⟨b, 0, none⟩), .slice A n c, .bool isDir] w (BoolBelow (simple Mt (PL.getD 0 ⟨#[]⟩) behind isDir (pathL f n)) w) := by
  have HO := Lib.hid ho; clear ho
  have HG := Lib.hid hg; clear hg
  have HP := Lib.hid hp; clear hp
  have HN := Lib.hid hnm; clear hnm
  have H1 := Lib.hid h1; clear h1
  generalize hG : simple Mt (PL.getD 0 ⟨#[]⟩) behind isDir (pathL f n) = G
  have HGG := Lib.hid hG; clear hG
  go_enter Tryd.func130, Tryd.ntmps130
  go_wp2
  go_loopw [13] (fun i wr => ∃ k : Nat, k ≤ n ∧ i = .int .i64 k ∧ G = simple Mt (PL.getD 0 ⟨#[]⟩) behind isDir ((pathL f n).drop k) ∧ Below w.heap.size w wr) (fun i _ => n - (intOf i).toNat)
  case atStart => exact ⟨0, Nat.zero_le _, rfl, HGG.out.symm, Below.refl _ _⟩
  case round =>
    obtain ⟨k, hk, rfl, hG, hbel⟩ := hrel
    have HGK := Lib.hid hG; clear hG
    have HB := Lib.hid hbel; clear hbel
    by_cases hlt : k < n
    · obtain ⟨bp, offp, hAe, _, hcell⟩ := (HP.out.below HB.out).at k hlt
      obtain ⟨A1, c1, hrow, hst⟩ := (HO.out.below HB.out).row
      obtain ⟨r0, r1, r2, r3, r4⟩ := hrow.cells
      obtain ⟨bq, offq, hAq, _, hcellq⟩ := hst.at 0 (by rw [H1.out]; omega)
      rw [Nat.add_zero] at hcellq
      have HNM := Lib.hid (HN.out k hlt).nm
      rw [pathL_drop f n k hlt] at HGK
      have HGK2 : Hid (G = if Mt (PL.getD 0 ⟨#[]⟩) (f k) = true then !(behind && !isDir && ((pathL f n).drop (k + 1)).isEmpty) else simple Mt (PL.getD 0 ⟨#[]⟩) behind isDir ((pathL f n).drop (k + 1))) := Lib.hid HGK.out
      rw [pathL_empty] at HGK2
      clear HGK
      rw [H1.out] at r1
      generalize f k = s at hcell HNM HGK2
      generalize PL.getD 0 ⟨#[]⟩ = p at *
      subst hAe hAq
      clear hrow hst r0 r2 r4
      go_wp2_with fail
      with_reducible refine (match_any p s _ HG.out HNM.out).mono ?_
      rintro e w' ⟨rfl, hb'⟩
      have HB2 := Lib.hid (HB.out.trans (hb'.mono HB.out.size)); clear hb'
      clear r1 r3 hcell hcellq HB
      obtain ⟨A2, c2, hrow2, _⟩ := (HO.out.below HB2.out).row
      obtain ⟨_, _, _, r3, _⟩ := hrow2.cells
      clear hrow2
      generalize Mt p s = B at HGK2 ⊢
      cases B with
      | false =>
        have HN2 : Hid (G = simple Mt p behind isDir ((pathL f n).drop (k + 1))) := Lib.hid (by rw [HGK2.out]; rfl)
        go_wp2
        go_roundw
        case rel => exact ⟨k + 1, by omega, by go_num, HN2.out, HB2.out⟩
        case measure => simp [intOf] <;> omega
      | true =>
        have HN2 : Hid (G = !(behind && !isDir && decide (n ≤ k + 1))) := Lib.hid (by rw [HGK2.out]; rfl)
        clear HGK2
        cases behind with
        | false =>
          have HN3 : Hid (G = true) := Lib.hid (by rw [HN2.out]; rfl)
          go_wp2
          go_ret
          exact ⟨by rw [HN3.out]; rfl, HB2.out⟩
        | true =>
          cases isDir with
          | true =>
            have HN3 : Hid (G = true) := Lib.hid (by rw [HN2.out]; rfl)
            go_wp2
            go_ret
            exact ⟨by rw [HN3.out]; rfl, HB2.out⟩
          | false =>
            by_cases hl : n ≤ k + 1
            · have q : ((k : Int) == (n : Int) - 1) = true := beq_iff_eq.mpr (by omega)
              have HN3 : Hid (G = false) := Lib.hid (by rw [HN2.out, decide_eq_true hl]; rfl)
              go_wp2
              try any_goals (exfalso; omega)
              go_ret
              exact ⟨by rw [HN3.out]; rfl, HB2.out⟩
            · have q : ((k : Int) == (n : Int) - 1) = false := beq_eq_false_iff_ne.mpr (by omega)
              have HN3 : Hid (G = true) := Lib.hid (by rw [HN2.out, decide_eq_false hl]; rfl)
              go_wp2
              try any_goals (exfalso; omega)
              go_ret
              exact ⟨by rw [HN3.out]; rfl, HB2.out⟩
    · have HN3 : Hid (G = false) := Lib.hid (by rw [HGK.out, pathL_end f n k (by omega)]; rfl)
      go_wp2
      go_ret
      exact ⟨by rw [HN3.out]; rfl, HB.out⟩
end Go.Proofs.YteipeagdflcjjaaDoor
