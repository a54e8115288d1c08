/- Names as NTFS reads them. -/
import Derived.Test.YteipeagdflcjjaaDoorNames
import Derived.Deep.DeepCutAuto
import Derived.Deep.CutBlock
namespace Go.Proofs.YteipeagdflcjjaaDoor
open Go.RowKit
set_option linter.unusedSimpArgs false
set_option linter.unusedVariables false

/-- Nothing but points and blanks up to a colon or the end. -/
def tailOk : List Nat → Bool
  | [] => true
  | c :: r => if c = 58 then true else if c = 46 ∨ c = 32 then tailOk r else false

/-- It begins with a word, in whatever letters. -/
def begins (s : ByteArray) (word : List Nat) : Bool := lowS ((nb s).take word.length) == word

theorem drop_bx {s : ByteArray} {k : Nat} (h : k < s.size) : (nb s).drop k = bx s k :: (nb s).drop (k + 1) := by
  rw [List.drop_eq_getElem_cons (by rw [nb_length]; exact h), bx_getElem]

theorem begins_le {s : ByteArray} {word : List Nat} (h : begins s word = true) : word.length ≤ s.size := by
  unfold begins at h
  have := congrArg List.length (beq_iff_eq.mp h)
  simp [lowS, nb_length] at this
  omega
theorem begins_short {s : ByteArray} {word : List Nat} (h : ¬ word.length ≤ s.size) : begins s word = false :=
  Bool.eq_false_iff.mpr fun hb => h (begins_le hb)

theorem lowS_take (s : ByteArray) (n : Nat) : lowS ((nb s).take n) = (lowS (nb s)).take n := by simp [lowS, List.map_take]
/-- It does not begin with two words of which the first letters differ. -/
theorem begins_not {s : ByteArray} {v u : List Nat} (h : begins s v = true) (hd : v.take 1 ≠ u.take 1) (hv : v ≠ []) (hu : u ≠ []) : begins s u = false := by
  refine Bool.eq_false_iff.mpr fun hb => ?_
  unfold begins at h hb
  have h1 := beq_iff_eq.mp h
  have h2 := beq_iff_eq.mp hb
  rw [lowS_take] at h1 h2
  apply hd
  rw [← h1, ← h2, List.take_take, List.take_take]
  cases v <;> cases u <;> simp_all

set_option maxHeartbeats 1000000 in
theorem isNTFSDotGit_any (s : ByteArray) (w : World) (hs : s.size ≤ maxLen) :
    Calls Tryd.prog 48 #[.string s] w fun e w' => e = .returned (.bool ((begins s dotGit && tailOk ((nb s).drop 4)) || (begins s gitOne && tailOk ((nb s).drop 5)))) ∧ w = w' := by
  unfold maxLen at hs
  go_enter Tryd.func48, Tryd.ntmps48
  go_upto_region 3 with (fail)
  go_cut [5] (fun v wx => v = .bool (begins s dotGit) ∧ wx = w)
  case first =>
    by_cases h4 : 4 ≤ s.size
    · have hbg : begins s dotGit = (lowS [bx s 0, bx s 1, bx s 2, bx s 3] == dotGit) := by
        unfold begins
        have e := drop_bx (s := s) (k := 0) (by omega)
        rw [drop_bx (k := 1) (by omega), drop_bx (k := 2) (by omega), drop_bx (k := 3) (by omega), List.drop_zero] at e
        rw [e]; rfl
      have b0 := bx_get s 0 (by omega); have b1 := bx_get s 1 (by omega); have b2 := bx_get s 2 (by omega); have b3 := bx_get s 3 (by omega)
      have l0 := bx_lt s 0; have l1 := bx_lt s 1; have l2 := bx_lt s 2; have l3 := bx_lt s 3
      generalize bx s 0 = c0 at b0 l0 hbg; generalize bx s 1 = c1 at b1 l1 hbg; generalize bx s 2 = c2 at b2 l2 hbg; generalize bx s 3 = c3 at b3 l3 hbg
      have HBG := Lib.hid hbg; clear hbg
      have h4' : (4 : Int) ≤ s.size := by omega
      go_wp2_with (first | (go_at_call 70; ((with_reducible refine (low_any _ (by assumption) _).mono ?_); rintro e w' ⟨rfl, rfl⟩)))
      all_goals
        go_meet
        case rel =>
          refine ⟨congrArg Value.bool ?_, rfl⟩
          rw [HBG.out, Bool.eq_iff_iff]
          simp [lowS, dotGit]
          unfold lowN at *
          (repeat' split at *) <;> omega
    · have h4' : ¬ (4 : Int) ≤ s.size := by omega
      have hbg : begins s dotGit = false := begins_short h4
      have HBG := Lib.hid hbg; clear hbg
      go_wp2
      go_meet
      case rel => exact ⟨congrArg Value.bool HBG.out.symm, rfl⟩
  case rest =>
    obtain ⟨rfl, rfl⟩ := hcut
    cases hb : begins s dotGit with
    | true =>
      have h4 : 4 ≤ s.size := begins_le hb
      have hg1 : begins s gitOne = false := begins_not hb (by decide) (by decide) (by decide)
      have HFIN : Hid ((begins s dotGit && tailOk ((nb s).drop 4) || begins s gitOne && tailOk ((nb s).drop 5)) = tailOk ((nb s).drop 4)) := Lib.hid (by rw [hb, hg1]; simp)
      clear hg1 hb
      go_wp2
      go_loop [3] (fun i => ∃ k : Nat, k ≤ s.size ∧ i = .int .i64 k ∧ tailOk ((nb s).drop 4) = tailOk ((nb s).drop k)) (fun i => s.size - (intOf i).toNat)
      case atStart => exact ⟨4, by omega, rfl, rfl⟩
      case round =>
        obtain ⟨k, hk, rfl, hres⟩ := hrel
        have HRES := Lib.hid hres; clear hres
        by_cases hlt : k < s.size
        · have hd := drop_bx hlt
          have hb := bx_get s k hlt
          generalize bx s k = c at hb hd
          have HD := Lib.hid hd; clear hd
          by_cases h58 : c = 58
          · have q1 : ((c : Int) == 58) = true := by simp [h58]
            have H58 := Lib.hid h58; clear h58
            go_wp2
            go_ret
            refine ⟨ret_bool ?_, rfl⟩
            rw [HFIN.out, HRES.out, HD.out, tailOk, if_pos H58.out]
          · have q1 : ((c : Int) == 58) = false := by simp; omega
            have H58 := Lib.hid h58; clear h58
            by_cases hok : c = 46 ∨ c = 32
            · have HOK := Lib.hid hok
              rcases hok with hok | hok
              · have q2 : ((c : Int) != 46) = false := by simp [hok]
                clear hok
                go_wp2
                go_round
                case rel => exact ⟨k + 1, by omega, by go_num, by rw [HRES.out, HD.out, tailOk, if_neg H58.out, if_pos HOK.out]⟩
                case measure => simp [intOf]; omega
              · have q2 : ((c : Int) != 46) = true := by simp [hok]
                have q3 : ((c : Int) != 32) = false := by simp [hok]
                clear hok
                go_wp2
                go_round
                case rel => exact ⟨k + 1, by omega, by go_num, by rw [HRES.out, HD.out, tailOk, if_neg H58.out, if_pos HOK.out]⟩
                case measure => simp [intOf]; omega
            · have q2 : ((c : Int) != 46) = true := by simp; omega
              have q3 : ((c : Int) != 32) = true := by simp; omega
              have HOK := Lib.hid hok; clear hok
              go_wp2
              go_ret
              refine ⟨ret_bool ?_, rfl⟩
              rw [HFIN.out, HRES.out, HD.out, tailOk, if_neg H58.out, if_neg HOK.out]
        · go_wp2
          go_ret
          refine ⟨ret_bool ?_, rfl⟩
          rw [HFIN.out, HRES.out, List.drop_eq_nil_of_le (by rw [nb_length]; omega)]
          rfl
    | false =>
      have HB := Lib.hid hb; clear hb
      go_upto_region 5 with (fail)
      go_cut [32] (fun v wx => v = .bool (begins s gitOne) ∧ wx = wc)
      case first =>
        by_cases h5 : 5 ≤ s.size
        · have hbg : begins s gitOne = (lowS [bx s 0, bx s 1, bx s 2, bx s 3, bx s 4] == gitOne) := by
            unfold begins
            have e := drop_bx (s := s) (k := 0) (by omega)
            rw [drop_bx (k := 1) (by omega), drop_bx (k := 2) (by omega), drop_bx (k := 3) (by omega), drop_bx (k := 4) (by omega), List.drop_zero] at e
            rw [e]; rfl
          have b0 := bx_get s 0 (by omega); have b1 := bx_get s 1 (by omega); have b2 := bx_get s 2 (by omega); have b3 := bx_get s 3 (by omega); have b4 := bx_get s 4 (by omega)
          have l0 := bx_lt s 0; have l1 := bx_lt s 1; have l2 := bx_lt s 2; have l3 := bx_lt s 3; have l4 := bx_lt s 4
          generalize bx s 0 = c0 at b0 l0 hbg; generalize bx s 1 = c1 at b1 l1 hbg; generalize bx s 2 = c2 at b2 l2 hbg; generalize bx s 3 = c3 at b3 l3 hbg; generalize bx s 4 = c4 at b4 l4 hbg
          have HBG := Lib.hid hbg; clear hbg
          have h4' : (5 : Int) ≤ s.size := by omega
          go_wp2_with (first | (go_at_call 70; ((with_reducible refine (low_any _ (by assumption) _).mono ?_); rintro e w' ⟨rfl, rfl⟩)))
          all_goals
            go_meet
            case rel =>
              refine ⟨congrArg Value.bool ?_, rfl⟩
              rw [HBG.out, Bool.eq_iff_iff]
              simp [lowS, gitOne]
              unfold lowN at *
              (repeat' split at *) <;> omega
        · have h4' : ¬ (5 : Int) ≤ s.size := by omega
          have hbg : begins s gitOne = false := begins_short h5
          have HBG := Lib.hid hbg; clear hbg
          go_wp2
          go_meet
          case rel => exact ⟨congrArg Value.bool HBG.out.symm, rfl⟩
      case rest =>
        obtain ⟨rfl, rfl⟩ := hcut
        cases hb : begins s gitOne with
        | true =>
          have h4 : 5 ≤ s.size := begins_le hb
          have HFIN : Hid ((begins s dotGit && tailOk ((nb s).drop 4) || begins s gitOne && tailOk ((nb s).drop 5)) = tailOk ((nb s).drop 5)) := Lib.hid (by rw [hb, HB.out]; simp)
          clear hb
          go_wp2
          go_loop [3] (fun i => ∃ k : Nat, k ≤ s.size ∧ i = .int .i64 k ∧ tailOk ((nb s).drop 5) = tailOk ((nb s).drop k)) (fun i => s.size - (intOf i).toNat)
          case atStart => exact ⟨5, by omega, rfl, rfl⟩
          case round =>
            obtain ⟨k, hk, rfl, hres⟩ := hrel
            have HRES := Lib.hid hres; clear hres
            by_cases hlt : k < s.size
            · have hd := drop_bx hlt
              have hb := bx_get s k hlt
              generalize bx s k = c at hb hd
              have HD := Lib.hid hd; clear hd
              by_cases h58 : c = 58
              · have q1 : ((c : Int) == 58) = true := by simp [h58]
                have H58 := Lib.hid h58; clear h58
                go_wp2
                go_ret
                refine ⟨ret_bool ?_, rfl⟩
                rw [HFIN.out, HRES.out, HD.out, tailOk, if_pos H58.out]
              · have q1 : ((c : Int) == 58) = false := by simp; omega
                have H58 := Lib.hid h58; clear h58
                by_cases hok : c = 46 ∨ c = 32
                · have HOK := Lib.hid hok
                  rcases hok with hok | hok
                  · have q2 : ((c : Int) != 46) = false := by simp [hok]
                    clear hok
                    go_wp2
                    go_round
                    case rel => exact ⟨k + 1, by omega, by go_num, by rw [HRES.out, HD.out, tailOk, if_neg H58.out, if_pos HOK.out]⟩
                    case measure => simp [intOf]; omega
                  · have q2 : ((c : Int) != 46) = true := by simp [hok]
                    have q3 : ((c : Int) != 32) = false := by simp [hok]
                    clear hok
                    go_wp2
                    go_round
                    case rel => exact ⟨k + 1, by omega, by go_num, by rw [HRES.out, HD.out, tailOk, if_neg H58.out, if_pos HOK.out]⟩
                    case measure => simp [intOf]; omega
                · have q2 : ((c : Int) != 46) = true := by simp; omega
                  have q3 : ((c : Int) != 32) = true := by simp; omega
                  have HOK := Lib.hid hok; clear hok
                  go_wp2
                  go_ret
                  refine ⟨ret_bool ?_, rfl⟩
                  rw [HFIN.out, HRES.out, HD.out, tailOk, if_neg H58.out, if_neg HOK.out]
            · go_wp2
              go_ret
              refine ⟨ret_bool ?_, rfl⟩
              rw [HFIN.out, HRES.out, List.drop_eq_nil_of_le (by rw [nb_length]; omega)]
              rfl
        | false =>
          have HB2 := Lib.hid hb; clear hb
          go_wp2
          go_ret
          exact ⟨ret_bool (by rw [HB.out, HB2.out]; rfl), rfl⟩
end Go.Proofs.YteipeagdflcjjaaDoor
