/- FnDisguiseName: the walk. -/
import Derived.Test.YtdmkjfkdjhmpjaaSpecN
import Derived.Test.YtdmkjfkdjhmpjaaDisguise
import Derived.Test.YtdmkjfkdjhmpjaaWord
import Derived.Test.YtdmkjfkdjhmpjaaHeadArg
namespace Go.Proofs.Ytdmkjfkdjhmpjaa
open Go.RowKit
set_option linter.unusedSimpArgs false
set_option linter.unusedVariables false

set_option maxHeartbeats 1000000 in
theorem lawName_any (wd : Nat) (A1 A2 : Option Addr) (n1 c1 n2 c2 : Nat) (f1 : Nat → Bool) (f2 : Nat → Nat) (tail : ByteArray) (w : World) (h : HeadArg w wd A1 A2 n1 n2 f1 f2) (ht : tail.size ≤ maxLen) :
    Calls Try.prog 6 #[.agg #[.int .u8 wd, .slice A1 n1 c1, .slice A2 n2 c2], .string tail] w (TrueBelow w) := by
  have HH := Lib.hid h; clear h
  have HTM := Lib.hid ht; clear ht
  go_enter Try.func6, Try.ntmps6
  go_wp2_with fail
  generalize hW : w.alloc _ = W
  have hW2 : Boxed w W wd A1 A2 n1 c1 n2 c2 := by subst hW; exact Boxed.new w wd A1 A2 n1 c1 n2 c2
  clear hW
  have HW := Lib.hid hW2; clear hW2
  with_reducible refine (fits17_any _ _ _ _ _ _ _ _).mono ?_
  rintro e w1 ⟨rfl, hb⟩
  have B1 := Lib.hid hb; clear hb
  by_cases hfit : n1 ≤ 2147483647 ∧ n2 ≤ 2147483647 ∧ tail.size ≤ 2147483647
  · obtain ⟨hf1, hf2, hf3⟩ := hfit
    rw [decide_eq_true (And.intro hf1 hf2)]
    have hf3' : (tail.size : Int) ≤ 2147483647 := by omega
    obtain ⟨d0, d1, d2⟩ := HW.out.cells B1.out
    go_upto_region 3 with (fail)
    go_cut [26] (fun v wx => ∃ B : Bool, v = .bool B ∧ (B = false → (n1 ≤ 12 ∧ n2 ≤ 12) ∧ (tail.size = 0 ∨ IsWord tail)) ∧ Below W.heap.size W wx)
    case first =>
      go_wp2_with fail
      with_reducible refine (isDisguise_any _ _ _ _ _ _ _ _).mono ?_
      rintro e w2 ⟨rfl, hb⟩
      have B2 := Lib.hid (B1.out.trans (hb.mono B1.out.size)); clear hb d0 d1 d2
      by_cases hdis : n1 ≤ 12 ∧ n2 ≤ 12
      · rw [decide_eq_true hdis]
        by_cases h0 : tail.size = 0
        · have he := isEmpty_str tail h0
          have H0 := Lib.hid h0; clear h0
          go_wp2
          go_meet
          case rel => exact ⟨_, rfl, fun _ => ⟨hdis, .inl H0.out⟩, B2.out⟩
        · have he := isEmpty_str_not tail h0
          have H0 := Lib.hid h0; clear h0
          go_wp2_with fail
          with_reducible refine (isWord_any _ _ HTM.out).mono ?_
          rintro e w3 ⟨b, rfl, hw, rfl⟩
          cases b with
          | true =>
            have HWD := Lib.hid (hw.mp rfl); clear hw
            go_wp2
            go_meet
            case rel => exact ⟨_, rfl, fun _ => ⟨hdis, .inr HWD.out⟩, B2.out⟩
          | false =>
            clear hw
            go_wp2
            go_meet
            case rel => exact ⟨_, rfl, fun h => absurd h (by decide), B2.out⟩
      · rw [decide_eq_false hdis]
        go_wp2
        go_meet
        case rel => exact ⟨_, rfl, fun h => absurd h (by decide), B2.out⟩
    case rest =>
      obtain ⟨B, rfl, hB, hb⟩ := hcut
      clear d0 d1 d2
      have B2 := Lib.hid hb; clear hb
      cases B with
      | true =>
        go_wp2_with fail
        with_reducible refine (awake_any _).mono ?_
        rintro e w3 ⟨rfl, hb⟩
        have B3 := Lib.hid (B2.out.trans (hb.mono B2.out.size)); clear hb
        go_wp2
        go_ret
        exact ⟨rfl, HW.out.below B3.out⟩
      | false =>
        obtain ⟨⟨hd1, hd2⟩, htl⟩ := hB rfl
        have ht30 : tail.size ≤ 30 := by
          rcases htl with h | h
          · omega
          · exact h.2.2
        clear hB htl
        obtain ⟨d0, d1, d2⟩ := HW.out.cells B2.out
        have HA2 := Lib.hid (HH.out.below (HW.out.below B2.out))
        go_wp2_with fail
        with_reducible refine (disguise_any _ HA2.out.word _ _ _ _ _ _ _ _ _ _ hd1 hd2 HA2.out.caps HA2.out.igns HA2.out.small).mono ?_
        rintro e w3 ⟨r1, r2, rfl, hr2, hr1, hp, _, hb⟩
        have B3 := Lib.hid (B2.out.trans (hb.mono B2.out.size)); clear hb hr2 hp d0 d1 d2
        have hlen : ¬ 9223372036854775807 < r1.size + tail.size := by omega
        have hsz : (r1 ++ tail).size ≤ 130 := by rw [ByteArray.size_append]; omega
        have HS1 : Hid ((r1 ++ tail).size ≤ 70368744177664) := Lib.hid (by omega)
        have HS2 : Hid ((r1 ++ tail).size ≤ maxLen) := Lib.hid (by unfold maxLen; omega)
        clear hsz
        have i0 := idx0
        go_wp2_with fail
        with_reducible refine (dotGit_any _ _ HS1.out).mono ?_
        rintro e w4 ⟨b4, b5, rfl, _, hb⟩
        have B4 := Lib.hid (B3.out.trans (hb.mono B3.out.size)); clear hb
        generalize hX : isGit (r1 ++ tail) = X
        have HX := Lib.hid hX; clear hX
        generalize hfsDot _ _ = x1; generalize ntfsGit _ = x2; generalize hfsDot _ _ = x3
        go_wp2_with fail
        with_reducible refine (specName_any _ _ HS2.out).mono ?_
        rintro e w5 ⟨rfl, hb⟩
        have B5 := Lib.hid (B4.out.trans (hb.mono B4.out.size)); clear hb
        rw [HX.out]
        have hxx : (X == X) = true := by simp
        go_wp2_with fail
        with_reducible refine (awake_any _).mono ?_
        rintro e w6 ⟨rfl, hb⟩
        have B6 := Lib.hid (B5.out.trans (hb.mono B5.out.size)); clear hb
        go_wp2
        go_ret
        exact ⟨rfl, HW.out.below B6.out⟩
  · by_cases hf12 : n1 ≤ 2147483647 ∧ n2 ≤ 2147483647
    · rw [decide_eq_true hf12]
      have hf3' : (2147483647 : Int) < tail.size := by omega
      go_wp2
      go_ret
      exact ⟨rfl, HW.out.below B1.out⟩
    · rw [decide_eq_false hf12]
      go_wp2
      go_ret
      exact ⟨rfl, HW.out.below B1.out⟩
end Go.Proofs.Ytdmkjfkdjhmpjaa
