/- FnDisguiseHFS: the walk. -/
import Derived.Test.YtdmkjfkdjhmpjaaSpecH
import Derived.Deep.RegionHeld3
import Derived.Test.YtdmkjfkdjhmpjaaDisguise
import Derived.Test.YtdmkjfkdjhmpjaaWord
import Derived.Test.YtdmkjfkdjhmpjaaHeadArg
namespace Go.Proofs.Ytdmkjfkdjhmpjaa
open Go.RowKit
set_option linter.unusedSimpArgs false
set_option linter.unusedVariables false

theorem below_of {V w : World} {B : Nat} {A C : Prop} (h : Below B V w ∧ A ∧ C) : Below B V w := h.1
theorem keep_two {V w w' : World} {b : Nat} {X1 X3 : Value} (h : b < V.heap.size ∧ V.cell? ⟨b, 1, none⟩ = some X1 ∧ V.cell? ⟨b, 3, none⟩ = some X3) (hp : Below V.heap.size V w ∧ w.cell? ⟨b, 1, none⟩ = some X1 ∧ w.cell? ⟨b, 3, none⟩ = some X3) (hb : Below w.heap.size w w') :
    Below V.heap.size V w' ∧ w'.cell? ⟨b, 1, none⟩ = some X1 ∧ w'.cell? ⟨b, 3, none⟩ = some X3 := by
  have h2 := hp.1.trans (hb.mono hp.1.size)
  exact ⟨h2, (h2.cell (p := ⟨b, 1, none⟩) h.1).trans h.2.1, (h2.cell (p := ⟨b, 3, none⟩) h.1).trans h.2.2⟩

set_option maxHeartbeats 1000000 in
theorem lawHFS_any (wd : Nat) (A1 A2 : Option Addr) (n1 c1 n2 c2 : Nat) (f1 : Nat → Bool) (f2 : Nat → Nat) (tail : ByteArray) (w : World) (h : HeadArg w wd A1 A2 n1 n2 f1 f2) (ht : tail.size ≤ maxLen) :
    Calls Try.prog 3 #[.agg #[.int .u8 wd, .slice A1 n1 c1, .slice A2 n2 c2], .string tail] w (TrueBelow w) := by
  have HH := Lib.hid h; clear h
  have HTM := Lib.hid ht; clear ht
  go_enter Try.func3, Try.ntmps3
  go_wp2_with fail
  generalize hW : w.alloc _ = W
  have hW2 : Boxed w W wd A1 A2 n1 c1 n2 c2 := by subst hW; exact Boxed.new w wd A1 A2 n1 c1 n2 c2
  clear hW
  have HW := Lib.hid hW2; clear hW2
  with_reducible refine (fits17_any _ _ _ _ _ _ _ _).mono ?_
  rintro e w1 ⟨rfl, hb⟩
  have B1 := Lib.hid hb; clear hb
  by_cases hfit : n1 ≤ 2147483647 ∧ n2 ≤ 2147483647 ∧ tail.size ≤ 2147483647
  · obtain ⟨hf1, hf2, hf3⟩ := hfit
    rw [decide_eq_true (And.intro hf1 hf2)]
    have hf3' : (tail.size : Int) ≤ 2147483647 := by omega
    obtain ⟨d0, d1, d2⟩ := HW.out.cells B1.out
    go_upto_region 3 with (fail)
    go_cut [27] (fun v wx => ∃ B : Bool, v = .bool B ∧ (B = false → (n1 ≤ 12 ∧ n2 ≤ 12) ∧ (tail.size = 0 ∨ IsWord tail)) ∧ Below W.heap.size W wx)
    case first =>
      go_wp2_with fail
      with_reducible refine (isDisguise_any _ _ _ _ _ _ _ _).mono ?_
      rintro e w2 ⟨rfl, hb⟩
      have B2 := Lib.hid (B1.out.trans (hb.mono B1.out.size)); clear hb d0 d1 d2
      by_cases hdis : n1 ≤ 12 ∧ n2 ≤ 12
      · rw [decide_eq_true hdis]
        by_cases h0 : tail.size = 0
        · have he := isEmpty_str tail h0
          have H0 := Lib.hid h0; clear h0
          go_wp2
          go_meet
          case rel => exact ⟨_, rfl, fun _ => ⟨hdis, .inl H0.out⟩, B2.out⟩
        · have he := isEmpty_str_not tail h0
          have H0 := Lib.hid h0; clear h0
          go_wp2_with fail
          with_reducible refine (isWord_any _ _ HTM.out).mono ?_
          rintro e w3 ⟨b, rfl, hw, rfl⟩
          cases b with
          | true =>
            have HWD := Lib.hid (hw.mp rfl); clear hw
            go_wp2
            go_meet
            case rel => exact ⟨_, rfl, fun _ => ⟨hdis, .inr HWD.out⟩, B2.out⟩
          | false =>
            clear hw
            go_wp2
            go_meet
            case rel => exact ⟨_, rfl, fun h => absurd h (by decide), B2.out⟩
      · rw [decide_eq_false hdis]
        go_wp2
        go_meet
        case rel => exact ⟨_, rfl, fun h => absurd h (by decide), B2.out⟩
    case rest =>
      obtain ⟨B, rfl, hB, hb⟩ := hcut
      clear d0 d1 d2
      have B2 := Lib.hid hb; clear hb
      cases B with
      | true =>
        go_wp2_with fail
        with_reducible refine (awake_any _).mono ?_
        rintro e w3 ⟨rfl, hb⟩
        have B3 := Lib.hid (B2.out.trans (hb.mono B2.out.size)); clear hb
        go_wp2
        go_ret
        exact ⟨rfl, HW.out.below B3.out⟩
      | false =>
        obtain ⟨⟨hd1, hd2⟩, htl⟩ := hB rfl
        have ht30 : tail.size ≤ 30 := by
          rcases htl with h | h
          · omega
          · exact h.2.2
        clear hB htl
        obtain ⟨d0, d1, d2⟩ := HW.out.cells B2.out
        have HA2 := Lib.hid (HH.out.below (HW.out.below B2.out))
        go_wp2_with fail
        with_reducible refine (disguise_any _ HA2.out.word _ _ _ _ _ _ _ _ _ _ hd1 hd2 HA2.out.caps HA2.out.igns HA2.out.small).mono ?_
        rintro e w3 ⟨r1, r2, rfl, hr2, hr1, _, hp, hb⟩
        have B3 := Lib.hid (B2.out.trans (hb.mono B2.out.size)); clear hb hr2 hp d0 d1 d2
        have hlen : ¬ 9223372036854775807 < r1.size + tail.size := by omega
        have hsz : (r1 ++ tail).size ≤ 130 := by rw [ByteArray.size_append]; omega
        have HS1 : Hid ((r1 ++ tail).size ≤ 70368744177664) := Lib.hid (by omega)
        clear hsz
        go_wp2_with fail
        with_reducible refine (dotGit_any _ _ HS1.out).mono ?_
        rintro e w4 ⟨b4, b5, rfl, _, hb⟩
        have B4 := Lib.hid (B3.out.trans (hb.mono B3.out.size)); clear hb
        generalize hX1 : hfsDot (runes (r1 ++ tail)) gitN = X1
        generalize hX3 : hfsDot (runes (r1 ++ tail)) gitmodulesN = X3
        have HX := Lib.hid (And.intro hX1 hX3); clear hX1 hX3
        generalize isGit _ = x0; generalize ntfsGit _ = x2
        go_upto_region 7 with (fail)
        have k1 : (w4.alloc (.cells #[.bool x0, .bool X1, .bool x2, .bool X3, .bool b4, .bool b5] 31)).cell? ⟨w4.heap.size, 1, none⟩ = some (.bool X1) := World.cell?_alloc_mark w4 _ 31 (0, 0) 1
        have k3 : (w4.alloc (.cells #[.bool x0, .bool X1, .bool x2, .bool X3, .bool b4, .bool b5] 31)).cell? ⟨w4.heap.size, 3, none⟩ = some (.bool X3) := World.cell?_alloc_mark w4 _ 31 (0, 0) 3
        have hl4 : w4.heap.size < (w4.alloc (.cells #[.bool x0, .bool X1, .bool x2, .bool X3, .bool b4, .bool b5] 31)).heap.size := by rw [heap_new_size]; omega
        have B5 : Hid (Below W.heap.size W (w4.alloc (.cells #[.bool x0, .bool X1, .bool x2, .bool X3, .bool b4, .bool b5] 31))) := Lib.hid (B4.out.alloc B4.out.size _)
        generalize w4.alloc (.cells #[.bool x0, .bool X1, .bool x2, .bool X3, .bool b4, .bool b5] 31) = V at k1 k3 hl4 B5
        generalize w4.heap.size = bb at k1 k3 hl4
        have he1 : (X1 == X1) = true := by simp
        have he3 : (X3 == X3) = true := by simp
        have HV := Lib.hid (And.intro hl4 (And.intro k1 k3))
        clear k1 k3 hl4
        have HG := Lib.hid (specHFS_any (r1 ++ tail) ⟨#[103, 105, 116]⟩)
        have HM := Lib.hid (specHFS_any (r1 ++ tail) ⟨#[103, 105, 116, 109, 111, 100, 117, 108, 101, 115]⟩)
        have hG : Hid (∀ w : World, Calls Try.prog 14 #[.string (r1 ++ tail), .string ⟨#[103, 105, 116]⟩] w fun e w' => e = .returned (.bool X1) ∧ Below w.heap.size w w') := Lib.hid (fun w => by
          have := specHFS_any (r1 ++ tail) ⟨#[103, 105, 116]⟩ w HS1.out (by decide) (by decide)
          rw [show nb ⟨#[103, 105, 116]⟩ = gitN from rfl, HX.out.1] at this
          exact this)
        have hM : Hid (∀ w : World, Calls Try.prog 14 #[.string (r1 ++ tail), .string ⟨#[103, 105, 116, 109, 111, 100, 117, 108, 101, 115]⟩] w fun e w' => e = .returned (.bool X3) ∧ Below w.heap.size w w') := Lib.hid (fun w => by
          have := specHFS_any (r1 ++ tail) ⟨#[103, 105, 116, 109, 111, 100, 117, 108, 101, 115]⟩ w HS1.out (by decide) (by decide)
          rw [show nb ⟨#[103, 105, 116, 109, 111, 100, 117, 108, 101, 115]⟩ = gitmodulesN from rfl, HX.out.2] at this
          exact this)
        clear HG HM
        go_region_held3 (fun w' => Below V.heap.size V w' ∧ w'.cell? ⟨bb, 1, none⟩ = some (.bool X1) ∧ w'.cell? ⟨bb, 3, none⟩ = some (.bool X3))
          (first
            | exact ⟨(Below.refl _ _).drew, HV.out.2.1, HV.out.2.2⟩
            | exact keep_two HV.out (by assumption) hbn)
          (first
            | (go_at_call 14; (with_reducible refine (hG.out _).mono ?_); rintro e w' ⟨rfl, hbn⟩)
            | (go_at_call 14; (with_reducible refine (hM.out _).mono ?_); rintro e w' ⟨rfl, hbn⟩)
            | (go_at_call 11; (with_reducible refine (awake_any _).mono ?_); rintro e w' ⟨rfl, hbn⟩))
        go_wp2
        go_ret
        exact ⟨rfl, HW.out.below (B5.out.trans ((below_of (by assumption)).mono B5.out.size))⟩
  · by_cases hf12 : n1 ≤ 2147483647 ∧ n2 ≤ 2147483647
    · rw [decide_eq_true hf12]
      have hf3' : (2147483647 : Int) < tail.size := by omega
      go_wp2
      go_ret
      exact ⟨rfl, HW.out.below B1.out⟩
    · rw [decide_eq_false hf12]
      go_wp2
      go_ret
      exact ⟨rfl, HW.out.below B1.out⟩
end Go.Proofs.Ytdmkjfkdjhmpjaa
