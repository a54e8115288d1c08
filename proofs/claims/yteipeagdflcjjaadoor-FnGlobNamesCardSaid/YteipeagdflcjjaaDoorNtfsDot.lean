/- Names as NTFS reads them: IsNTFSDot at .gitmodules and its short names. -/
import Derived.Test.YteipeagdflcjjaaDoorFold
import Derived.Test.YteipeagdflcjjaaDoorNtfs
namespace Go.Proofs.YteipeagdflcjjaaDoor
open Go.RowKit
set_option linter.unusedSimpArgs false
set_option linter.unusedVariables false

set_option maxHeartbeats 400000 in
theorem onlySpaces_any (s : ByteArray) (start : Nat) (a : Addr) (w : World) (hs : s.size ≤ maxLen) (hst : start ≤ s.size) (hcell : w.cell? a = some (.string s)) :
    Calls Tryd.prog 85 #[.int .i64 start, .pointer (some a)] w fun e w' => e = .returned (.bool (tailOk ((nb s).drop start))) ∧ w = w' := by
  unfold maxLen at hs
  go_enter Tryd.func85, Tryd.ntmps85
  go_wp2
  go_loop [4] (fun i => ∃ k : Nat, k ≤ s.size ∧ i = .int .i64 k ∧ tailOk ((nb s).drop start) = tailOk ((nb s).drop k)) (fun i => s.size - (intOf i).toNat)
  case atStart => exact ⟨start, hst, rfl, rfl⟩
  case round =>
    obtain ⟨k, hk, rfl, hres⟩ := hrel
    have HRES := Lib.hid hres; clear hres
    by_cases hlt : k < s.size
    · have hd := drop_bx hlt
      have hb := bx_get s k hlt
      generalize bx s k = c at hb hd
      have HD := Lib.hid hd; clear hd
      by_cases h58 : c = 58
      · have q1 : ((c : Int) == 58) = true := by simp [h58]
        have H58 := Lib.hid h58; clear h58
        go_wp2
        go_ret
        refine ⟨ret_bool ?_, rfl⟩
        rw [HRES.out, HD.out, tailOk, if_pos H58.out]
      · have q1 : ((c : Int) == 58) = false := by simp; omega
        have H58 := Lib.hid h58; clear h58
        by_cases hok : c = 46 ∨ c = 32
        · have HOK := Lib.hid hok
          rcases hok with hok | hok
          · have q2 : ((c : Int) != 46) = false := by simp [hok]
            have q3 : ((c : Int) != 32) = true := by simp [hok]
            clear hok
            go_wp2
            go_round
            case rel => exact ⟨k + 1, by omega, by go_num, by rw [HRES.out, HD.out, tailOk, if_neg H58.out, if_pos HOK.out]⟩
            case measure => simp [intOf]; omega
          · have q3 : ((c : Int) != 32) = false := by simp [hok]
            clear hok
            go_wp2
            go_round
            case rel => exact ⟨k + 1, by omega, by go_num, by rw [HRES.out, HD.out, tailOk, if_neg H58.out, if_pos HOK.out]⟩
            case measure => simp [intOf]; omega
        · have q2 : ((c : Int) != 46) = true := by simp; omega
          have q3 : ((c : Int) != 32) = true := by simp; omega
          have HOK := Lib.hid hok; clear hok
          go_wp2
          go_ret
          refine ⟨ret_bool ?_, rfl⟩
          rw [HRES.out, HD.out, tailOk, if_neg H58.out, if_neg HOK.out]
    · go_wp2
      go_ret
      refine ⟨ret_bool ?_, rfl⟩
      rw [HRES.out, List.drop_eq_nil_of_le (by rw [nb_length]; omega)]
      rfl

def dotGitmodules : List Nat := [46, 103, 105, 116, 109, 111, 100, 117, 108, 101, 115]
def gitmod : List Nat := [103, 105, 116, 109, 111, 100]
def sumN : List Nat := [103, 105, 55, 101, 98, 97]

/-- gitmod, a tilde, a number from 1 to 4. -/
def shortOk (s : ByteArray) : Bool := decide (8 ≤ s.size) && begins s gitmod && decide (bx s 6 = 126 ∧ 49 ≤ bx s 7 ∧ bx s 7 ≤ 52)

/-- n letters of gi7eba, a tilde, a number: eight in all. -/
structure SumAt (s : ByteArray) (n : Nat) (i : Nat) : Prop where
  le : n ≤ 6
  pre : ∀ j, j < n → lowN (bx s j) = sumN.getD j 0
  tilde : bx s n = 126
  first : 49 ≤ bx s (n + 1) ∧ bx s (n + 1) ≤ 57
  digits : ∀ j, n + 2 ≤ j → j < i → 48 ≤ bx s j ∧ bx s j ≤ 57

def DotPost (s : ByteArray) (w : World) (e : Ending) (w' : World) : Prop :=
  ∃ b : Bool, e = .returned (.bool b) ∧ (b = true ↔ (begins s dotGitmodules = true ∧ tailOk ((nb s).drop 11) = true) ∨ (8 ≤ s.size ∧ tailOk ((nb s).drop 8) = true ∧ (shortOk s = true ∨ ∃ n, SumAt s n 8))) ∧ Below w.heap.size w w'

theorem fin_false {A B : Prop} (h : ¬ A) (h2 : ¬ B) : (false = true ↔ A ∨ B) := by simp [h, h2]

theorem sumN_ne (j : Nat) : sumN.getD j 0 ≠ 126 ∧ sumN.getD j 0 < 128 := by
  match j with
  | 0 => decide
  | 1 => decide
  | 2 => decide
  | 3 => decide
  | 4 => decide
  | 5 => decide
  | j + 6 => simp [sumN]
theorem lowN_tilde {c : Nat} (h : c = 126) : lowN c = 126 := by subst h; rfl
theorem lowN_high {c : Nat} (h : 128 ≤ c) : 128 ≤ lowN c := by unfold lowN; split <;> omega

set_option maxRecDepth 10000 in
theorem and128_all : ∀ a : Fin 256, ((a.1 &&& 128) != 0) = decide (128 ≤ a.1) := by decide
theorem and128 {c : Nat} (h : c < 256) : (bits .and .u8 (c : Int) 128 != 0) = decide (128 ≤ c) := by
  have h1 := (bits_nat .u8 8 (by decide) wraps_u8 c 128 h (by decide)).1
  rw [show (128 : Int) = ((128 : Nat) : Int) from rfl, h1, ← and128_all ⟨c, h⟩, Bool.eq_iff_iff]
  simp only [bne_iff_ne, ne_eq]
  omega

/-- Where the tilde stands is where the letters end. -/
theorem SumAt.at {s : ByteArray} {m k i : Nat} (h : SumAt s m k) (hp : ∀ j, j < i → lowN (bx s j) = sumN.getD j 0) : i ≤ m := by
  rcases Nat.lt_or_ge m i with hl | hl
  · have := hp m hl
    rw [lowN_tilde h.tilde] at this
    exact absurd this.symm (sumN_ne m).1
  · exact hl
theorem SumAt.eq {s : ByteArray} {m k i : Nat} (h : SumAt s m k) (hp : ∀ j, j < i → lowN (bx s j) = sumN.getD j 0) (hc : bx s i = 126) : m = i := by
  have h1 := h.at hp
  rcases Nat.lt_or_ge i m with hl | hl
  · have := h.pre i hl
    rw [lowN_tilde hc] at this
    exact absurd this.symm (sumN_ne i).1
  · omega

set_option maxRecDepth 100000 in
set_option maxHeartbeats 2000000 in
theorem isNTFSDot_any (s : ByteArray) (w : World) (hs : s.size ≤ maxLen) :
    Calls Tryd.prog 71 #[.string s, .string ⟨#[103, 105, 116, 109, 111, 100, 117, 108, 101, 115]⟩, .string ⟨#[103, 105, 55, 101, 98, 97]⟩] w (DotPost s w) := by
  have hs' := hs
  unfold maxLen at hs
  go_enter Tryd.func71, Tryd.ntmps71
  have hc0 : (w.alloc (.cells #[.string s] 9)).cell? ⟨w.heap.size, 0, none⟩ = some (.string s) := World.cell?_alloc_mark _ _ _ _ _
  have hb0 : Below w.heap.size w (w.alloc (.cells #[.string s] 9)) := (Below.refl _ _).alloc (Nat.le_refl _) _
  go_upto_region 2 with (fail)
  generalize hW : w.alloc (.cells #[.string s] 9) = W at hc0 hb0
  have HB0 := Lib.hid hb0; clear hb0
  clear hW
  go_cut [31] (fun v wx => v = .bool (begins s dotGitmodules) ∧ ∃ n, wx = W.drewN n)
  case first =>
    by_cases h11 : 11 ≤ s.size
    · have h11' : (11 : Int) ≤ s.size := by omega
      have b0 := bx_get s 0 (by omega)
      have hbg : begins s dotGitmodules = (lowN (bx s 0) == 46 && lowS (nb (s.extract 1 11)) == lowS (nb ⟨#[103, 105, 116, 109, 111, 100, 117, 108, 101, 115]⟩)) := by
        unfold begins
        have e := drop_bx (s := s) (k := 0) (by omega)
        rw [List.drop_zero] at e
        rw [nb_extract, e]
        rfl
      generalize hc : bx s 0 = c at b0 hbg
      have HC := Lib.hid hc; clear hc
      have HBG := Lib.hid hbg; clear hbg
      have hx : (s.extract 1 11).size ≤ maxLen := extract_le _ _ _ _ hs'
      by_cases h46 : c = 46
      · have q1 : ((c : Int) == 46) = true := by simp [h46]
        have H46 := Lib.hid h46; clear h46
        go_wp2_with fail
        with_reducible refine (zzFold_any _ _ _ hx (by decide)).mono ?_
        rintro e w' ⟨rfl, n, rfl⟩
        generalize hB : (lowS (nb (s.extract 1 11)) == lowS (nb ⟨#[103, 105, 116, 109, 111, 100, 117, 108, 101, 115]⟩)) = B
        have HBB := Lib.hid hB; clear hB
        go_wp2
        go_meet
        case rel => exact ⟨congrArg Value.bool (by rw [HBG.out, HBB.out, H46.out]; rfl), n, rfl⟩
      · have q1 : ((c : Int) == 46) = false := by simp; omega
        have H46 := Lib.hid h46; clear h46
        go_wp2
        go_meet
        case rel =>
          refine ⟨congrArg Value.bool ?_, 0, rfl⟩
          rw [HBG.out]
          have h := H46.out
          symm
          simp
          intro h2; exfalso; unfold lowN at h2; split at h2 <;> omega
    · have h11' : (s.size : Int) < 11 := by omega
      have HBG : Hid (begins s dotGitmodules = false) := Lib.hid (begins_short h11)
      go_wp2
      go_meet
      case rel => exact ⟨congrArg Value.bool HBG.out.symm, 0, rfl⟩
  case rest =>
    obtain ⟨rfl, n, rfl⟩ := hcut
    have hc2 : (W.drewN n).cell? ⟨w.heap.size, 0, none⟩ = some (.string s) := hc0
    have hb2 : Below w.heap.size w (W.drewN n) := below_drewN HB0.out n
    generalize W.drewN n = W2 at hc2 hb2
    clear HB0 hc0
    have HB2 := Lib.hid hb2; clear hb2
    go_upto_if 31 with (fail)
    go_cut [] (fun wx => ¬ (begins s dotGitmodules = true ∧ tailOk ((nb s).drop 11) = true) ∧ wx = W2)
    case first =>
      cases hbg : begins s dotGitmodules with
      | true =>
        have HBG := Lib.hid hbg; clear hbg
        have h11 : 11 ≤ s.size := begins_le HBG.out
        have hcl := onlySpaces_any s 11 ⟨w.heap.size, 0, none⟩ W2 hs' h11 hc2
        rw [show ((11 : Nat) : Int) = 11 from rfl] at hcl
        have HCL := Lib.hid hcl; clear hcl
        go_wp2_with fail
        with_reducible refine HCL.out.mono ?_
        rintro e w' ⟨rfl, rfl⟩
        cases ht : tailOk ((nb s).drop 11) with
        | true =>
          have HT := Lib.hid ht; clear ht
          go_wp2
          go_ret
          exact ⟨true, rfl, ⟨fun _ => .inl ⟨HBG.out, HT.out⟩, fun _ => rfl⟩, HB2.out⟩
        | false =>
          have HT := Lib.hid ht; clear ht
          go_wp2
          go_meet
          case rel => exact ⟨fun h => absurd h.2 (by rw [HT.out]; decide), rfl⟩
      | false =>
        have HBG := Lib.hid hbg; clear hbg
        go_wp2
        go_meet
        case rel => exact ⟨fun h => absurd h.1 (by rw [HBG.out]; decide), rfl⟩
    case rest =>
      obtain ⟨hna, rfl⟩ := hcut
      have HNA := Lib.hid hna; clear hna
      go_upto_region 5 with (fail)
      go_cut [66] (fun v wx => v = .bool (shortOk s) ∧ ∃ n, wx = wc.drewN n)
      case first =>
        by_cases h8 : 8 ≤ s.size
        · have h8' : (8 : Int) ≤ s.size := by omega
          have b6 := bx_get s 6 (by omega)
          have b7 := bx_get s 7 (by omega)
          have hsg : shortOk s = ((lowS (nb (s.extract 0 6)) == lowS (nb ⟨#[103, 105, 116, 109, 111, 100]⟩)) && decide (bx s 6 = 126 ∧ 49 ≤ bx s 7 ∧ bx s 7 ≤ 52)) := by
            unfold shortOk begins
            rw [nb_extract, decide_eq_true h8]; rfl
          generalize bx s 6 = c6 at b6 hsg
          generalize bx s 7 = c7 at b7 hsg
          have hx : (s.extract 0 6).size ≤ maxLen := extract_le _ _ _ _ hs'
          generalize hB : (lowS (nb (s.extract 0 6)) == lowS (nb ⟨#[103, 105, 116, 109, 111, 100]⟩)) = B at hsg
          have HBB := Lib.hid hB; clear hB
          have HSG := Lib.hid hsg; clear hsg
          have HX := Lib.hid hx; clear hx
          cases B with
          | false =>
            go_quiet ((go_at_call 86; exact Calls.quiet_of (zzFold_b _ _ _ HX.out (by decide) _ HBB.out)))
            go_wp2
            go_meet
            case rel => exact ⟨congrArg Value.bool HSG.out.symm, _, rfl⟩
          | true =>
            by_cases h6 : c6 = 126
            · have q6 : ((c6 : Int) == 126) = true := by simp [h6]
              have H6 := Lib.hid h6; clear h6
              by_cases h7 : (49 : Int) ≤ c7
              · by_cases h72 : (c7 : Int) ≤ 52
                · have H7 : Hid (49 ≤ c7 ∧ c7 ≤ 52) := Lib.hid (by omega)
                  go_quiet ((go_at_call 86; exact Calls.quiet_of (zzFold_b _ _ _ HX.out (by decide) _ HBB.out)))
                  go_wp2
                  go_meet
                  case rel => exact ⟨congrArg Value.bool (by rw [HSG.out, decide_eq_true ⟨H6.out, H7.out⟩]; rfl), _, rfl⟩
                · have q7 : (52 : Int) < c7 := by omega
                  have d7 : decide ((c7 : Int) ≤ 52) = false := decide_eq_false h72
                  have H7 : Hid (¬ c7 ≤ 52) := Lib.hid (by omega)
                  go_quiet ((go_at_call 86; exact Calls.quiet_of (zzFold_b _ _ _ HX.out (by decide) _ HBB.out)))
                  go_wp2
                  go_meet
                  case rel => exact ⟨congrArg Value.bool (by rw [HSG.out, decide_eq_false (fun h => H7.out h.2.2)]; rfl), _, rfl⟩
              · have q7 : (c7 : Int) < 49 := by omega
                have H7 : Hid (¬ 49 ≤ c7) := Lib.hid (by omega)
                go_quiet ((go_at_call 86; exact Calls.quiet_of (zzFold_b _ _ _ HX.out (by decide) _ HBB.out)))
                go_wp2
                go_meet
                case rel => exact ⟨congrArg Value.bool (by rw [HSG.out, decide_eq_false (fun h => H7.out h.2.1)]; rfl), _, rfl⟩
            · have q6 : ((c6 : Int) == 126) = false := by simp; omega
              have H6 := Lib.hid h6; clear h6
              go_quiet ((go_at_call 86; exact Calls.quiet_of (zzFold_b _ _ _ HX.out (by decide) _ HBB.out)))
              go_wp2
              go_meet
              case rel => exact ⟨congrArg Value.bool (by rw [HSG.out, decide_eq_false (fun h => H6.out h.1)]; rfl), _, rfl⟩
        · have h8' : (s.size : Int) < 8 := by omega
          have d8 : decide ((8 : Int) ≤ s.size) = false := decide_eq_false (by omega)
          have HSG : Hid (shortOk s = false) := Lib.hid (by unfold shortOk; rw [decide_eq_false h8]; rfl)
          go_quiet (fail)
          go_wp2
          go_meet
          case rel => exact ⟨congrArg Value.bool HSG.out.symm, _, rfl⟩
      case rest =>
        obtain ⟨rfl, n, rfl⟩ := hcut
        have hc3 : (wc.drewN n).cell? ⟨w.heap.size, 0, none⟩ = some (.string s) := hc2
        have hb3 : Below w.heap.size w (wc.drewN n) := below_drewN HB2.out n
        generalize wc.drewN n = W3 at hc3 hb3
        clear HB2 hc2
        have HB3 := Lib.hid hb3; clear hb3
        go_upto_if 66 with (fail)
        go_cut [] (fun wx => ¬ (shortOk s = true ∧ tailOk ((nb s).drop 8) = true) ∧ wx = W3)
        case first =>
          cases hbg : shortOk s with
          | true =>
            have HBG := Lib.hid hbg; clear hbg
            have h8 : 8 ≤ s.size := by
              have := HBG.out
              unfold shortOk at this
              simp only [Bool.and_eq_true, decide_eq_true_eq] at this
              exact this.1.1
            have hcl := onlySpaces_any s 8 ⟨w.heap.size, 0, none⟩ W3 hs' h8 hc3
            rw [show ((8 : Nat) : Int) = 8 from rfl] at hcl
            have HCL := Lib.hid hcl; clear hcl
            go_wp2_with fail
            with_reducible refine HCL.out.mono ?_
            rintro e w' ⟨rfl, rfl⟩
            cases ht : tailOk ((nb s).drop 8) with
            | true =>
              have HT := Lib.hid ht; clear ht
              go_wp2
              go_ret
              exact ⟨true, rfl, ⟨fun _ => .inr ⟨h8, HT.out, .inl HBG.out⟩, fun _ => rfl⟩, HB3.out⟩
            | false =>
              have HT := Lib.hid ht; clear ht
              go_wp2
              go_meet
              case rel => exact ⟨fun h => absurd h.2 (by rw [HT.out]; decide), rfl⟩
          | false =>
            have HBG := Lib.hid hbg; clear hbg
            go_wp2
            go_meet
            case rel => exact ⟨fun h => absurd h.1 (by rw [HBG.out]; decide), rfl⟩
        case rest =>
          obtain ⟨hnb, rfl⟩ := hcut
          have HNB := Lib.hid hnb; clear hnb
          by_cases h8 : 8 ≤ s.size
          · have h8' : (8 : Int) ≤ s.size := by omega
            go_wp2
            go_loopw [8, 9] (fun sw iv wr => ∃ i : Nat, i ≤ 8 ∧ iv = .int .i64 i ∧ (∃ n, wr = wc.drewN n) ∧ ((sw = .bool false ∧ i ≤ 6 ∧ ∀ j, j < i → lowN (bx s j) = sumN.getD j 0) ∨ (sw = .bool true ∧ ∃ n, n + 2 ≤ i ∧ SumAt s n i))) (fun _ iv _ => 8 - (intOf iv).toNat)
            case atStart => exact ⟨0, by omega, rfl, ⟨0, rfl⟩, .inl ⟨rfl, by omega, fun j hj => by omega⟩⟩
            case round =>
              obtain ⟨i, hi, rfl, ⟨n, hwr⟩, hst⟩ := hrel
              have hc4 : wr.cell? ⟨w.heap.size, 0, none⟩ = some (.string s) := by rw [hwr]; exact hc3
              have hbw : Below w.heap.size w wr := by rw [hwr]; exact below_drewN HB3.out n
              have HWR := Lib.hid hwr; clear hwr
              have HBW := Lib.hid hbw; clear hbw
              by_cases hi8 : i < 8
              · have hb := bx_get s i (by omega)
                have hbl := bx_lt s i
                generalize hc : bx s i = c at hb hbl
                have HC := Lib.hid hc; clear hc
                rcases hst with ⟨rfl, hi6, hpre⟩ | ⟨rfl, m, hm, hsum⟩
                · have HPRE := Lib.hid hpre; clear hpre
                  by_cases h126 : c = 126
                  · have q1 : ((c : Int) == 126) = true := by simp [h126]
                    have H126 : Hid (bx s i = 126) := Lib.hid (by rw [HC.out]; exact h126)
                    clear h126
                    have b2 := bx_get s (i + 1) (by omega)
                    have b2l := bx_lt s (i + 1)
                    generalize hc2 : bx s (i + 1) = c2 at b2 b2l
                    have HC2 := Lib.hid hc2; clear hc2
                    have e1 : ((i : Int) + 1).toNat = i + 1 := by omega
                    have dge : decide ((s.size : Int) ≤ (i : Int) + 1) = false := decide_eq_false (by omega)
                    by_cases h49 : (49 : Int) ≤ c2
                    · by_cases h57 : (c2 : Int) ≤ 57
                      · have H57 : Hid (49 ≤ bx s (i + 1) ∧ bx s (i + 1) ≤ 57) := Lib.hid (by rw [HC2.out]; omega)
                        go_wp2
                        go_roundw
                        case rel =>
                          refine ⟨i + 2, by omega, by go_num, ⟨n, HWR.out⟩, .inr ⟨rfl, i, by omega, ⟨hi6, HPRE.out, H126.out, H57.out, fun j h1 h2 => by omega⟩⟩⟩
                        case measure => simp [intOf]; omega
                      · have H57 : Hid (57 < bx s (i + 1)) := Lib.hid (by rw [HC2.out]; omega)
                        have d57 : (57 : Int) < c2 := by omega
                        go_wp2
                        go_ret
                        refine ⟨false, rfl, fin_false HNA.out ?_, HBW.out⟩
                        rintro ⟨_, h2, h3 | ⟨m, h3⟩⟩
                        · exact HNB.out ⟨h3, h2⟩
                        · obtain rfl := h3.eq HPRE.out H126.out
                          have := h3.first; have := H57.out; omega
                    · have H57 : Hid (bx s (i + 1) < 49) := Lib.hid (by rw [HC2.out]; omega)
                      have d57 : (c2 : Int) < 49 := by omega
                      go_wp2
                      go_ret
                      refine ⟨false, rfl, fin_false HNA.out ?_, HBW.out⟩
                      rintro ⟨_, h2, h3 | ⟨m, h3⟩⟩
                      · exact HNB.out ⟨h3, h2⟩
                      · obtain rfl := h3.eq HPRE.out H126.out
                        have := h3.first; have := H57.out; omega
                  · have q1 : ((c : Int) == 126) = false := by simp; omega
                    have H126 : Hid (bx s i ≠ 126) := Lib.hid (by rw [HC.out]; exact h126)
                    clear h126
                    by_cases hi5 : i < 6
                    · have q6 : decide ((6 : Int) ≤ i) = false := decide_eq_false (by omega)
                      have hp2 := bx_get ⟨#[103, 105, 55, 101, 98, 97]⟩ i hi5
                      rw [show bx ⟨#[103, 105, 55, 101, 98, 97]⟩ i = sumN.getD i 0 from rfl] at hp2
                      have hdl := (sumN_ne i).2
                      generalize hsn : sumN.getD i 0 = d at hp2 hdl
                      have HSN := Lib.hid hsn; clear hsn
                      by_cases h128 : c < 128
                      · have q128 : (bits .and .u8 (c : Int) 128 != 0) = false := by rw [and128 hbl]; exact decide_eq_false (by omega)
                        by_cases hlow : lowN c = d
                        · have q : (((lowN c : Nat) : Int) != (d : Int)) = false := by simp [hlow]
                          have HLOW := Lib.hid hlow; clear hlow
                          go_wp2_with fail
                          go_quiet ((go_at_call 70; exact Calls.quiet_of_same (low_same _ (by assumption) _)))
                          go_wp2
                          go_roundw
                          case rel =>
                            refine ⟨i + 1, by omega, by go_num, ?_, .inl ⟨rfl, by omega, fun j hj => ?_⟩⟩
                            · rw [HWR.out, World.drewN_drewN]; exact ⟨_, rfl⟩
                            · by_cases e : j = i
                              · subst e; rw [HC.out, HSN.out]; exact HLOW.out
                              · exact HPRE.out j (by omega)
                          case measure => simp [intOf]; omega
                        · have q : (((lowN c : Nat) : Int) != (d : Int)) = true := by simp; omega
                          have HLOW := Lib.hid hlow; clear hlow
                          go_wp2_with fail
                          go_quiet ((go_at_call 70; exact Calls.quiet_of_same (low_same _ (by assumption) _)))
                          go_wp2
                          go_ret
                          refine ⟨false, rfl, fin_false HNA.out ?_, below_drewN HBW.out _⟩
                          rintro ⟨_, h2, h3 | ⟨m, h3⟩⟩
                          · exact HNB.out ⟨h3, h2⟩
                          · have h4 := h3.at HPRE.out
                            rcases Nat.lt_or_eq_of_le h4 with h5 | rfl
                            · have := h3.pre i h5
                              rw [HC.out, HSN.out] at this
                              exact HLOW.out this
                            · exact H126.out h3.tilde
                      · have q128 : (bits .and .u8 (c : Int) 128 != 0) = true := by rw [and128 hbl]; exact decide_eq_true (by omega)
                        go_wp2
                        go_ret
                        refine ⟨false, rfl, fin_false HNA.out ?_, HBW.out⟩
                        rintro ⟨_, h2, h3 | ⟨m, h3⟩⟩
                        · exact HNB.out ⟨h3, h2⟩
                        · have h4 := h3.at HPRE.out
                          rcases Nat.lt_or_eq_of_le h4 with h5 | rfl
                          · have := h3.pre i h5
                            rw [HC.out, HSN.out] at this
                            have := lowN_high (c := c) (by omega)
                            omega
                          · exact H126.out h3.tilde
                    · have q6 : decide ((6 : Int) ≤ i) = true := decide_eq_true (by omega)
                      go_wp2
                      go_ret
                      refine ⟨false, rfl, fin_false HNA.out ?_, HBW.out⟩
                      rintro ⟨_, h2, h3 | ⟨m, h3⟩⟩
                      · exact HNB.out ⟨h3, h2⟩
                      · have h4 := h3.at HPRE.out
                        have := h3.le
                        obtain rfl : m = i := by omega
                        exact H126.out h3.tilde
                · have HSUM := Lib.hid hsum; clear hsum
                  by_cases h48 : (48 : Int) ≤ c
                  · by_cases h57 : (c : Int) ≤ 57
                    · go_wp2
                      go_roundw
                      case rel =>
                        refine ⟨i + 1, by omega, by go_num, ⟨n, HWR.out⟩, .inr ⟨rfl, m, by omega, ⟨HSUM.out.le, HSUM.out.pre, HSUM.out.tilde, HSUM.out.first, fun j h1 h2 => ?_⟩⟩⟩
                        by_cases e : j = i
                        · subst e; rw [HC.out]; omega
                        · exact HSUM.out.digits j h1 (by omega)
                      case measure => simp [intOf]; omega
                    · have d57 : (57 : Int) < c := by omega
                      go_wp2
                      go_ret
                      refine ⟨false, rfl, fin_false HNA.out ?_, HBW.out⟩
                      rintro ⟨_, h2, h3 | ⟨m', h3⟩⟩
                      · exact HNB.out ⟨h3, h2⟩
                      · obtain rfl := h3.eq HSUM.out.pre HSUM.out.tilde
                        have := h3.digits i hm hi8
                        rw [HC.out] at this
                        omega
                  · have d48 : (c : Int) < 48 := by omega
                    go_wp2
                    go_ret
                    refine ⟨false, rfl, fin_false HNA.out ?_, HBW.out⟩
                    rintro ⟨_, h2, h3 | ⟨m', h3⟩⟩
                    · exact HNB.out ⟨h3, h2⟩
                    · obtain rfl := h3.eq HSUM.out.pre HSUM.out.tilde
                      have := h3.digits i hm hi8
                      rw [HC.out] at this
                      omega
              · obtain rfl : i = 8 := by omega
                rcases hst with ⟨rfl, hi6, hpre⟩ | ⟨rfl, m, hm, hsum⟩
                · omega
                · have HSUM := Lib.hid hsum; clear hsum
                  have hcl := onlySpaces_any s 8 ⟨w.heap.size, 0, none⟩ wr hs' h8 hc4
                  rw [show ((8 : Nat) : Int) = 8 from rfl] at hcl
                  have HCL := Lib.hid hcl; clear hcl
                  go_wp2_with fail
                  with_reducible refine HCL.out.mono ?_
                  rintro e w' ⟨rfl, rfl⟩
                  cases ht : tailOk ((nb s).drop 8) with
                  | true =>
                    have HT := Lib.hid ht; clear ht
                    go_wp2
                    go_ret
                    exact ⟨true, rfl, ⟨fun _ => .inr ⟨h8, HT.out, .inr ⟨m, HSUM.out⟩⟩, fun _ => rfl⟩, HBW.out⟩
                  | false =>
                    have HT := Lib.hid ht; clear ht
                    go_wp2
                    go_ret
                    refine ⟨false, rfl, fin_false HNA.out (fun h => absurd h.2.1 (by rw [HT.out]; decide)), HBW.out⟩
          · have h8' : (s.size : Int) < 8 := by omega
            have d8 : decide ((8 : Int) ≤ s.size) = false := decide_eq_false (by omega)
            go_wp2
            go_ret
            exact ⟨false, rfl, fin_false HNA.out (fun h => h8 h.1), HB3.out⟩
end Go.Proofs.YteipeagdflcjjaaDoor
