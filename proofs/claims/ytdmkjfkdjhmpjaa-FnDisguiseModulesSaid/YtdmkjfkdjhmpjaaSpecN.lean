/- The reference's answers: DisguiseName, disguiseRest, disguiseBehind, DisguiseNTFS. -/
import Derived.Test.YtdmkjfkdjhmpjaaDot
namespace Go.Proofs.Ytdmkjfkdjhmpjaa
open Go.RowKit
set_option linter.unusedSimpArgs false
set_option linter.unusedVariables false

set_option maxHeartbeats 400000 in
theorem specName_any (s : ByteArray) (w : World) (hs : s.size ≤ maxLen) :
    Calls Try.prog 17 #[.string s] w fun e w' => e = .returned (.bool (isGit s)) ∧ Below w.heap.size w w' := by
  go_enter Try.func17, Try.ntmps17
  go_wp2_with fail
  with_reducible refine (confLower_any _ _ hs).mono ?_
  rintro e w' ⟨r, rfl, hr, hb⟩
  have HR := Lib.hid hr
  have HB := Lib.hid hb
  clear hr hb
  by_cases h1 : lowS (nb s) = dotGit
  · have q : (r.toList == [46, 103, 105, 116]) = true := by rw [beq_str, HR.out, h1]; rfl
    have H1 := Lib.hid h1; clear h1
    go_wp2
    go_ret
    exact ⟨ret_bool (by unfold isGit; rw [H1.out]; rfl), HB.out⟩
  · have q : (r.toList == [46, 103, 105, 116]) = false := by rw [beq_str, HR.out, beq_eq_false_iff_ne]; exact h1
    have H1 := Lib.hid h1; clear h1
    go_wp2
    go_ret
    refine ⟨ret_bool ?_, HB.out⟩
    have q2 := beq_str r [103, 105, 116, 126, 49]
    rw [HR.out] at q2
    rw [q2]
    unfold isGit
    rw [beq_eq_false_iff_ne.mpr H1.out]
    rfl

set_option maxHeartbeats 400000 in
theorem specRest_any (s : ByteArray) (w : World) (hs : s.size ≤ maxLen) :
    Calls Try.prog 31 #[.string s] w fun e w' => e = .returned (.bool (tailOk (nb s))) ∧ w = w' := by
  unfold maxLen at hs
  go_enter Try.func31, Try.ntmps31
  go_wp2
  go_loop [6] (fun i => ∃ k : Nat, k ≤ s.size ∧ i = .int .i64 k ∧ tailOk (nb s) = tailOk ((nb s).drop k)) (fun i => s.size - (intOf i).toNat)
  case atStart => exact ⟨0, Nat.zero_le _, rfl, rfl⟩
  case round =>
    obtain ⟨k, hk, rfl, hres⟩ := hrel
    have HRES := Lib.hid hres; clear hres
    by_cases hlt : k < s.size
    · have hd := drop_bx hlt
      have hb := bx_get s k hlt
      generalize bx s k = c at hb hd
      have HD := Lib.hid hd; clear hd
      by_cases h58 : c = 58
      · have q1 : ((c : Int) == 58) = true := by simp [h58]
        have H58 := Lib.hid h58; clear h58
        go_wp2
        go_ret
        refine ⟨ret_bool ?_, rfl⟩
        rw [HRES.out, HD.out, tailOk, if_pos H58.out]
      · have q1 : ((c : Int) == 58) = false := by simp; omega
        have H58 := Lib.hid h58; clear h58
        by_cases hok : c = 46 ∨ c = 32
        · have HOK := Lib.hid hok
          rcases hok with hok | hok
          · have q2 : ((c : Int) != 46) = false := by simp [hok]
            have q3 : ((c : Int) != 32) = true := by simp [hok]
            clear hok
            go_wp2
            go_round
            case rel => exact ⟨k + 1, by omega, by go_num, by rw [HRES.out, HD.out, tailOk, if_neg H58.out, if_pos HOK.out]⟩
            case measure => simp [intOf]; omega
          · have q3 : ((c : Int) != 32) = false := by simp [hok]
            have q2 : ((c : Int) != 46) = true := by simp [hok]
            clear hok
            go_wp2
            go_round
            case rel => exact ⟨k + 1, by omega, by go_num, by rw [HRES.out, HD.out, tailOk, if_neg H58.out, if_pos HOK.out]⟩
            case measure => simp [intOf]; omega
        · have q2 : ((c : Int) != 46) = true := by simp; omega
          have q3 : ((c : Int) != 32) = true := by simp; omega
          have HOK := Lib.hid hok; clear hok
          go_wp2
          go_ret
          refine ⟨ret_bool ?_, rfl⟩
          rw [HRES.out, HD.out, tailOk, if_neg H58.out, if_neg HOK.out]
    · go_wp2
      go_ret
      refine ⟨ret_bool ?_, rfl⟩
      rw [HRES.out, List.drop_eq_nil_of_le (by rw [nb_length]; omega)]
      rfl

set_option maxHeartbeats 400000 in
theorem specBehind_any (s word : ByteArray) (w : World) (hs : s.size ≤ maxLen) (hw : word.size ≤ maxLen) :
    Calls Try.prog 30 #[.string s, .string word] w fun e w' => e = .returned (.bool (begins s (nb word) && tailOk ((nb s).drop word.size))) ∧ Below w.heap.size w w' := by
  have HSZ := Lib.hid hs
  have HWZ := Lib.hid hw
  unfold maxLen at hs hw
  by_cases hle : word.size ≤ s.size
  · have hle' : (word.size : Int) ≤ s.size := by omega
    have hbg : begins s (nb word) = (lowS (nb (s.extract 0 word.size)) == nb word) := by
      unfold begins
      rw [nb_extract, nb_length]; rfl
    have hdr : (nb s).drop word.size = nb (s.extract word.size s.size) := by
      rw [nb_extract, List.take_of_length_le (by rw [List.length_drop, nb_length]; omega)]
    have HBG := Lib.hid hbg; clear hbg
    have HDR := Lib.hid hdr; clear hdr
    have HX := Lib.hid (extract_le s 0 word.size _ HSZ.out)
    have HY := Lib.hid (extract_le s word.size s.size _ HSZ.out)
    go_enter Try.func30, Try.ntmps30
    go_wp2_with fail
    with_reducible refine (confLower_any _ _ HX.out).mono ?_
    rintro e w' ⟨r, rfl, hr, hb⟩
    have hq := beq_str2 r word
    rw [hr] at hq
    have HB := Lib.hid hb
    clear hr hb
    generalize (lowS (nb (s.extract 0 word.size)) == nb word) = B at hq HBG
    cases B with
    | false =>
      go_wp2
      go_ret
      exact ⟨ret_bool (by rw [HBG.out]; rfl), HB.out⟩
    | true =>
      go_wp2_with fail
      with_reducible refine (specRest_any _ _ HY.out).mono ?_
      rintro e w2 ⟨rfl, rfl⟩
      generalize hT : tailOk (nb (s.extract word.size s.size)) = T
      have HT := Lib.hid hT; clear hT
      go_wp2
      go_ret
      exact ⟨ret_bool (by rw [HBG.out, HDR.out, HT.out]; rfl), HB.out⟩
  · have hle' : (s.size : Int) < word.size := by omega
    have HBG : Hid (begins s (nb word) = false) := Lib.hid (begins_short (by rw [nb_length]; exact hle))
    go_enter Try.func30, Try.ntmps30
    go_wp2
    go_ret
    exact ⟨ret_bool (by rw [HBG.out]; rfl), Below.refl _ _⟩

set_option maxHeartbeats 400000 in
theorem specNTFS_any (s : ByteArray) (w : World) (hs : s.size ≤ maxLen) :
    Calls Try.prog 16 #[.string s] w fun e w' => e = .returned (.bool (ntfsGit s)) ∧ Below w.heap.size w w' := by
  have HSZ := Lib.hid hs; clear hs
  go_enter Try.func16, Try.ntmps16
  go_wp2_with fail
  with_reducible refine (specBehind_any s ⟨#[46, 103, 105, 116]⟩ _ HSZ.out (by decide)).mono ?_
  rintro e w1 ⟨rfl, hb⟩
  have B1 := Lib.hid hb; clear hb
  rw [show nb ⟨#[46, 103, 105, 116]⟩ = dotGit from rfl, show (⟨#[46, 103, 105, 116]⟩ : ByteArray).size = 4 from rfl]
  generalize hx : (begins s dotGit && tailOk ((nb s).drop 4)) = X
  have HX := Lib.hid hx; clear hx
  cases X with
  | true =>
    go_wp2
    go_ret
    exact ⟨ret_bool (by unfold ntfsGit; rw [HX.out]; rfl), B1.out⟩
  | false =>
    go_wp2_with fail
    with_reducible refine (specBehind_any s ⟨#[103, 105, 116, 126, 49]⟩ _ HSZ.out (by decide)).mono ?_
    rintro e w2 ⟨rfl, hb⟩
    have B2 := Lib.hid (B1.out.trans (hb.mono B1.out.size)); clear hb
    rw [show nb ⟨#[103, 105, 116, 126, 49]⟩ = gitOne from rfl, show (⟨#[103, 105, 116, 126, 49]⟩ : ByteArray).size = 5 from rfl]
    generalize hy : (begins s gitOne && tailOk ((nb s).drop 5)) = Y
    have HY := Lib.hid hy; clear hy
    go_wp2
    go_ret
    exact ⟨ret_bool (by unfold ntfsGit; rw [HX.out, HY.out]; rfl), B2.out⟩
end Go.Proofs.Ytdmkjfkdjhmpjaa
