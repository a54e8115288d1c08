/- FnIgnoreUnder: the walk. -/
import Derived.Test.YteipeagdflcjjaaAwakeG
namespace Go.Proofs.Yteipeagdflcjjaa
open Go.RowKit
set_option linter.unusedSimpArgs false
set_option linter.unusedVariables false

theorem own_empty (w : World) : Own (w.alloc (.cells #[] 9)) w.heap.size (.slice (some ⟨w.heap.size, 0, none⟩) 0 0) [] := by
  refine ⟨by simp, .inr ⟨w.heap.size, 0, #[], rfl, Nat.le_refl _, heap_new w _, Nat.le_refl _, Nat.zero_le _, ?_, ?_⟩⟩ <;> simp
theorem pathL_append (f g : Nat → ByteArray) (n m : Nat) : pathL f n ++ pathL g m = pathL (fun i => if i < n then f i else g (i - n)) (n + m) := by
  unfold pathL
  rw [List.range_add, List.map_append]
  congr 1
  · refine List.map_congr_left fun i hi => ?_
    rw [if_pos (List.mem_range.mp hi)]
  · rw [List.map_map]
    refine List.map_congr_left fun i hi => ?_
    show g i = if n + i < n then f (n + i) else g (n + i - n)
    rw [if_neg (by omega), Nat.add_sub_cancel_left]
theorem match_more {PL path more : List ByteArray} {behind : Bool} (isDir : Bool) (hm : more ≠ []) (h : matchL PL behind true path = true) : matchL PL behind isDir (path ++ more) = true := by
  unfold matchL at h ⊢
  split
  · rename_i h2
    rw [if_pos h2] at h
    exact gres_more Mt CC PL path more behind isDir hm h
  · rename_i h2
    rw [if_neg h2] at h
    exact simple_more Mt _ more behind isDir hm path h

set_option maxRecDepth 100000 in
set_option maxHeartbeats 4000000 in
theorem lawIgn_any (A0 A1 A2 : Option Addr) (n0 c0 n1 c1 n2 c2 : Nat) (f0 f1 f2 : Nat → ByteArray) (b1 b2 b3 : Bool) (w : World)
    (m0 : n0 ≤ maxLen) (m1 : n1 ≤ maxLen) (m2 : n2 ≤ maxLen) (h0 : Strs w A0 n0 f0) (h1 : Strs w A1 n1 f1) (h2 : Strs w A2 n2 f2) :
    Calls Try.prog 3 #[.agg #[.slice A0 n0 c0, .bool b1, .bool b2, .bool b3], .slice A1 n1 c1, .slice A2 n2 c2] w (TrueBelow w) := by
  have H0 := Lib.hid h0; clear h0
  have H1 := Lib.hid h1; clear h1
  have H2 := Lib.hid h2; clear h2
  obtain ⟨i0, hi, hz0, hz1, hz2⟩ := info_parts strInfo
  go_enter Try.func3, Try.ntmps3
  go_upto_region 1 with (fail)
  generalize hW : w.alloc _ = W
  have hW2 : PBox w W A0 n0 c0 b1 b2 b3 := by subst hW; exact PBox.new w A0 n0 c0 b1 b2 b3
  clear hW
  have HW := Lib.hid hW2
  obtain ⟨d0, d1, d2, d3⟩ := hW2.cells (Below.refl _ _)
  clear hW2
  go_cut [20] (fun v wx => ∃ B : Bool, v = .bool B ∧ (B = false → (n0 ≤ 2147483647 ∧ ∀ i, i < n0 → (f0 i).size ≤ 2147483647) ∧ (n1 ≤ 2147483647 ∧ ∀ i, i < n1 → (f1 i).size ≤ 2147483647) ∧ (n2 ≤ 2147483647 ∧ ∀ i, i < n2 → (f2 i).size ≤ 2147483647)) ∧ Below W.heap.size W wx)
  case first =>
    go_wp2_with fail
    with_reducible refine (fits28_any _ _ _ f0 _ _ _ _ m0 (H0.out.below HW.out.bel)).mono ?_
    rintro e w1 ⟨r1, rfl, hr1, hb⟩
    have HB := Lib.hid hb; clear hb
    have HR1 := Lib.hid hr1; clear hr1
    cases r1 with
    | false =>
      go_wp2
      go_meet
      case rel => exact ⟨true, rfl, fun h => (by cases h), HB.out⟩
    | true =>
      go_wp2_with fail
      with_reducible refine (fits3_any _ _ _ f1 _ m1 (H1.out.below (HW.out.below HB.out))).mono ?_
      rintro e w2 ⟨r2, rfl, hr2, rfl⟩
      have HR2 := Lib.hid hr2; clear hr2
      cases r2 with
      | false =>
        go_wp2
        go_meet
        case rel => exact ⟨true, rfl, fun h => (by cases h), HB.out⟩
      | true =>
        go_wp2_with fail
        with_reducible refine (fits3_any _ _ _ f2 _ m2 (H2.out.below (HW.out.below HB.out))).mono ?_
        rintro e w3 ⟨r3, rfl, hr3, rfl⟩
        have HR3 := Lib.hid hr3; clear hr3
        cases r3 with
        | false =>
          go_wp2
          go_meet
          case rel => exact ⟨true, rfl, fun h => (by cases h), HB.out⟩
        | true =>
          go_wp2
          go_meet
          case rel => exact ⟨false, rfl, fun _ => ⟨(by first | exact HR1.out rfl | exact HR1.out trivial), (by first | exact HR2.out rfl | exact HR2.out trivial), (by first | exact HR3.out rfl | exact HR3.out trivial)⟩, HB.out⟩
  case rest =>
    obtain ⟨B, rfl, hB, hb⟩ := hcut
    clear d0 d1 d2 d3
    have B1 := Lib.hid hb; clear hb
    cases B with
    | true =>
      clear hB
      go_wp2
      go_ret
      exact ⟨rfl, HW.out.below B1.out⟩
    | false =>
      obtain ⟨⟨s0, hs0⟩, ⟨s1, hs1⟩, ⟨s2, hs2⟩⟩ := hB rfl
      have HS0 := Lib.hid hs0; have HS1 := Lib.hid hs1; have HS2 := Lib.hid hs2
      clear hB hs0 hs1 hs2
      obtain ⟨d0, d1, d2, d3⟩ := HW.out.cells B1.out
      go_upto_region 3 with (fail)
      go_cut [45] (fun v wx => ∃ B : Bool, v = .bool B ∧ (B = false → (1 ≤ n0 ∧ n0 ≤ 4 ∧ ∀ i, i < n0 → PartOk n0 (f0 i)) ∧ b1 = false ∧ (1 ≤ n1 ∧ n1 ≤ 5 ∧ ∀ i, i < n1 → NameOk (f1 i)) ∧ (1 ≤ n2 ∧ n2 ≤ 5 ∧ ∀ i, i < n2 → NameOk (f2 i))) ∧ Below W.heap.size W wx)
      case first =>
        go_wp2_with fail
        with_reducible refine (isGlob_any _ _ _ f0 _ _ _ _ s0 (H0.out.below (HW.out.below B1.out)) HS0.out).mono ?_
        rintro e w1 ⟨r1, rfl, hr1, hb⟩
        have B2 := Lib.hid (B1.out.trans (hb.mono B1.out.size)); clear hb
        have HR1 := Lib.hid hr1; clear hr1 d0 d1 d2 d3
        obtain ⟨d0, d1, d2, d3⟩ := HW.out.cells B2.out
        cases r1 with
        | false =>
          go_wp2
          go_meet
          case rel => exact ⟨true, rfl, fun h => (by cases h), B2.out⟩
        | true =>
          cases b1 with
          | true =>
            go_wp2
            go_meet
            case rel => exact ⟨true, rfl, fun h => (by cases h), B2.out⟩
          | false =>
            go_wp2_with fail
            with_reducible refine (isGlobPath_any _ _ _ f1 _ s1 (H1.out.below (HW.out.below B2.out)) HS1.out).mono ?_
            rintro e w2 ⟨r2, rfl, hr2, rfl⟩
            have HR2 := Lib.hid hr2; clear hr2
            cases r2 with
            | false =>
              go_wp2
              go_meet
              case rel => exact ⟨true, rfl, fun h => (by cases h), B2.out⟩
            | true =>
              go_wp2_with fail
              with_reducible refine (isGlobPath_any _ _ _ f2 _ s2 (H2.out.below (HW.out.below B2.out)) HS2.out).mono ?_
              rintro e w3 ⟨r3, rfl, hr3, rfl⟩
              have HR3 := Lib.hid hr3; clear hr3
              cases r3 with
              | false =>
                go_wp2
                go_meet
                case rel => exact ⟨true, rfl, fun h => (by cases h), B2.out⟩
              | true =>
                by_cases h6 : (6 : Int) < (n1 : Int) + n2
                · go_wp2
                  try any_goals (exfalso; omega)
                  go_meet
                  case rel => exact ⟨true, rfl, fun h => (by cases h), B2.out⟩
                · have h6' : (n1 : Int) + n2 ≤ 6 := by omega
                  go_wp2
                  try any_goals (exfalso; omega)
                  go_meet
                  case rel => exact ⟨_, rfl, fun _ => ⟨(by first | exact HR1.out rfl | exact HR1.out trivial), (by first | rfl | trivial), (by first | exact HR2.out rfl | exact HR2.out trivial), (by first | exact HR3.out rfl | exact HR3.out trivial)⟩, B2.out⟩
      case rest =>
        obtain ⟨B, rfl, hB, hb⟩ := hcut
        clear d0 d1 d2 d3
        have B2 := Lib.hid hb; clear hb
        cases B with
        | true =>
          clear hB
          go_wp2_with fail
          with_reducible refine (awake_any _).mono ?_
          rintro e w3 ⟨rfl, hb⟩
          have B3 := Lib.hid (B2.out.trans (hb.mono B2.out.size)); clear hb
          go_wp2
          go_ret
          exact ⟨rfl, HW.out.below B3.out⟩
        | false =>
          obtain ⟨⟨p1, p4, hpo⟩, rfl, ⟨q1, q5, hq⟩, ⟨r1, r5, hr⟩⟩ := hB rfl
          have HPO := Lib.hid hpo; have HQ := Lib.hid hq; have HRR := Lib.hid hr
          clear hB hpo hq hr
          obtain ⟨e1b, e1o, hA1, _, _⟩ := H1.out.at 0 (by omega)
          obtain ⟨e2b, e2o, hA2, _, _⟩ := H2.out.at 0 (by omega)
          subst hA1 hA2
          obtain ⟨d0, d1, d2, d3⟩ := HW.out.cells B2.out
          go_wp2_with fail
          with_reducible refine (globText_any _ _ _ f0 b2 b3 _ p4 (H0.out.below (HW.out.below B2.out)) HPO.out).mono ?_
          rintro e w3 ⟨t3, rfl, ht3, hts3, hb⟩
          have HT3 : Hid (PatText t3 b3 (patList f0 n0 b2)) := Lib.hid (pat_text p1 p4 HPO.out ht3 hts3)
          have B3 := Lib.hid (B2.out.trans (hb.mono B2.out.size))
          clear hb ht3 hts3 d0 d1 d2 d3
          obtain ⟨d0, d1, d2, d3⟩ := HW.out.cells B3.out
          go_wp2_with fail
          with_reducible refine (one_any t3 b3 _ true e1b e1o n1 c1 f1 _ HT3.out q1 (by omega) (H1.out.below (HW.out.below B3.out)) HQ.out).mono ?_
          rintro e w4 ⟨rfl, hb⟩
          have B4 := Lib.hid (B3.out.trans (hb.mono B3.out.size)); clear hb d0 d1 d2 d3
          obtain ⟨d0, d1, d2, d3⟩ := HW.out.cells B4.out
          cases hM : matchL (patList f0 n0 b2) b3 true (pathL f1 n1) with
          | false =>
            have o1 : one false = 0 := rfl
            rw [o1]
            clear hM
            go_wp2_with fail
            with_reducible refine (awake_any _).mono ?_
            rintro e w5 ⟨rfl, hb⟩
            have B5 := Lib.hid (B4.out.trans (hb.mono B4.out.size)); clear hb
            go_wp2
            go_ret
            exact ⟨rfl, HW.out.below B5.out⟩
          | true =>
            have o1 : one true = 1 := rfl
            rw [o1]
            have hne : pathL f2 n2 ≠ [] := fun e => by have := congrArg List.length e; rw [pathL_length] at this; simp at this; omega
            have HMM : Hid (∀ isDir, matchL (patList f0 n0 b2) b3 isDir (pathL (fun i => if i < n1 then f1 i else f2 (i - n1)) (n1 + n2)) = true) := Lib.hid fun isDir => by
              rw [← pathL_append]; exact match_more isDir hne hM
            have HNM : Hid (∀ i, i < n1 + n2 → NameOk ((fun i => if i < n1 then f1 i else f2 (i - n1)) i)) := Lib.hid fun i hi => by
              by_cases h : i < n1
              · show NameOk (if i < n1 then f1 i else f2 (i - n1))
                rw [if_pos h]; exact HQ.out i h
              · show NameOk (if i < n1 then f1 i else f2 (i - n1))
                rw [if_neg h]; exact HRR.out _ (by omega)
            have HPL := Lib.hid (pathL_append f1 f2 n1 n2)
            clear hM hne
            generalize (fun i => if i < n1 then f1 i else f2 (i - n1)) = f12 at HMM HNM HPL
            have HL1 : Hid (((pathL f1 n1).map Value.string).length = n1 * 1) := Lib.hid (by rw [List.length_map, pathL_length, Nat.mul_one])
            have HL2 : Hid (((pathL f2 n2).map Value.string).length = n2 * 1) := Lib.hid (by rw [List.length_map, pathL_length, Nat.mul_one])
            have HE := Lib.hid (own_empty w4)
            clear d0 d1 d2 d3
            go_upto_region 7 with (fail)
            go_wp2_with (at_builtin; refine wpList_append_lies _ rfl (.tmp 53) (.tmp 54) 22 rfl w4.heap.size 9 i0 (.string ⟨#[]⟩) 1 16 strsKind hi hz0 hz1 hz2 rfl (by decide) _ 0 [] rfl HE.out ⟨e1b, e1o, none⟩ n1 c1 ((pathL f1 n1).map Value.string) rfl HL1.out (path_news (H1.out.below (HW.out.below (B4.out.alloc B4.out.size _)))) (path_one _) (by omega) ?c3 ?c4 ?c5 _ rfl ?_)
            case c3 => unfold maxLen; omega
            case c4 => omega
            case c5 => rw [heap_new_size]; omega
            intro g5 cap5 w5 hown5 hgrow5 _ _
            have HO5 := Lib.hid hown5
            have HG5 : Hid (w4.heap.size ≤ w5.heap.size) := Lib.hid (by have := hgrow5.size; rw [heap_new_size] at this; omega)
            have HG5b : Hid (W.heap.size ≤ g5) := Lib.hid (by have h1 := B4.out.size; have h2 := (World.ownsRow.lt hown5 g5 rfl).1; omega)
            have B5 : Hid (Below W.heap.size W w5) := Lib.hid ((B4.out.alloc B4.out.size _).grown hgrow5 (by have := B4.out.size; rw [heap_new_size]; omega) (fun q e => by cases e; exact B4.out.size))
            clear hown5 hgrow5
            go_wp2_with (at_builtin; refine wpList_append_lies _ rfl (.tmp 55) (.tmp 56) 22 rfl w4.heap.size 9 i0 (.string ⟨#[]⟩) 1 16 strsKind hi hz0 hz1 hz2 rfl (by decide) _ n1 _ rfl HO5.out ⟨e2b, e2o, none⟩ n2 c2 ((pathL f2 n2).map Value.string) rfl HL2.out (path_news (H2.out.below (HW.out.below B5.out))) (path_one _) (by omega) ?d3 ?d4 ?d5 _ rfl ?_)
            case d3 => unfold maxLen; omega
            case d4 => omega
            case d5 => have h1 := B4.out.size; have h2 := B5.out.size; first | omega | (have h3 := HG5.out; omega)
            intro g6 cap6 w6 hown6 hgrow6 _ _
            have B6 : Hid (Below W.heap.size W w6) := Lib.hid (B5.out.grown hgrow6 B5.out.size (fun q e => by cases e; exact HG5b.out))
            rw [← List.map_append, HPL.out] at hown6
            have HQ6 := Lib.hid (path_own (f := f12) (n := n1 + n2) (by rw [Nat.zero_add, List.nil_append]; exact hown6))
            clear hown6 hgrow6
            have P6 := Lib.hid HQ6.out.1
            obtain ⟨d0, d1, d2, d3⟩ := HW.out.cells B6.out
            go_wp2_with fail
            with_reducible refine (globText_any _ _ _ f0 b2 b3 _ p4 (H0.out.below (HW.out.below B6.out)) HPO.out).mono ?_
            rintro e w7 ⟨t7, rfl, ht7, hts7, hb⟩
            have HT7 : Hid (PatText t7 b3 (patList f0 n0 b2)) := Lib.hid (pat_text p1 p4 HPO.out ht7 hts7)
            have P7 := Lib.hid (Strs.below P6.out hb)
            have B7 := Lib.hid (B6.out.trans (hb.mono B6.out.size))
            clear hb ht7 hts7 d0 d1 d2 d3
            obtain ⟨d0, d1, d2, d3⟩ := HW.out.cells B7.out
            go_wp2_with fail
            with_reducible refine (one_any t7 b3 _ false g6 0 (n1 + n2) cap6 f12 _ HT7.out (by omega) (by omega) P7.out HNM.out).mono ?_
            rintro e w8 ⟨rfl, hb⟩
            rw [HMM.out false, o1]
            have P8 := Lib.hid (Strs.below P7.out hb)
            have B8 := Lib.hid (B7.out.trans (hb.mono B7.out.size))
            clear hb d0 d1 d2 d3
            obtain ⟨d0, d1, d2, d3⟩ := HW.out.cells B8.out
            go_wp2_with fail
            with_reducible refine (globText_any _ _ _ f0 b2 b3 _ p4 (H0.out.below (HW.out.below B8.out)) HPO.out).mono ?_
            rintro e w9 ⟨t9, rfl, ht9, hts9, hb⟩
            have HT9 : Hid (PatText t9 b3 (patList f0 n0 b2)) := Lib.hid (pat_text p1 p4 HPO.out ht9 hts9)
            have P9 := Lib.hid (Strs.below P8.out hb)
            have B9 := Lib.hid (B8.out.trans (hb.mono B8.out.size))
            clear hb ht9 hts9 d0 d1 d2 d3
            obtain ⟨d0, d1, d2, d3⟩ := HW.out.cells B9.out
            go_wp2_with fail
            with_reducible refine (one_any t9 b3 _ true g6 0 (n1 + n2) cap6 f12 _ HT9.out (by omega) (by omega) P9.out HNM.out).mono ?_
            rintro e w10 ⟨rfl, hb⟩
            rw [HMM.out true, o1]
            have P10 := Lib.hid (Strs.below P9.out hb)
            have B10 := Lib.hid (B9.out.trans (hb.mono B9.out.size))
            clear hb d0 d1 d2 d3
            obtain ⟨d0, d1, d2, d3⟩ := HW.out.cells B10.out
            go_wp2_with fail
            with_reducible refine (awake_any _).mono ?_
            rintro e w11 ⟨rfl, hb⟩
            have B11 := Lib.hid (B10.out.trans (hb.mono B10.out.size)); clear hb
            go_wp2
            go_ret
            exact ⟨rfl, HW.out.below B11.out⟩
end Go.Proofs.Yteipeagdflcjjaa
