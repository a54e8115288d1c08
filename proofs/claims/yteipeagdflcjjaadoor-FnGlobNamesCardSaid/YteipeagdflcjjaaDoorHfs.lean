/- Names as HFS+ reads them: IsHFSDot, IsHFSDotGit, IsHFSDotGitmodules. -/
import Derived.Test.YteipeagdflcjjaaDoorRunes
namespace Go.Proofs.YteipeagdflcjjaaDoor
open Go.RowKit
set_option linter.unusedSimpArgs false
set_option linter.unusedVariables false

def ign (r : Nat) : Bool := decide ((8204 ≤ r ∧ r ≤ 8207) ∨ (8234 ≤ r ∧ r ≤ 8238) ∨ (8298 ≤ r ∧ r ≤ 8303) ∨ r = 65279)
theorem ign_iff (r : Nat) : ign r = true ↔ ((8204 ≤ r ∧ r ≤ 8207) ∨ (8234 ≤ r ∧ r ≤ 8238) ∨ (8298 ≤ r ∧ r ≤ 8303) ∨ r = 65279) := by
  unfold ign; exact decide_eq_true_iff

set_option maxHeartbeats 400000 in
theorem hfsIgnored_any (r : Nat) (w : World) :
    Calls Tryd.prog 84 #[.int .i32 r] w fun e w' => e = .returned (.bool (ign r)) ∧ w = w' := by
  go_enter Tryd.func84, Tryd.ntmps84
  go_wp2
  all_goals (go_ret; refine ⟨ret_bool ?_, rfl⟩; rw [Bool.eq_iff_iff, ign_iff]; simp only [decide_eq_true_eq, beq_iff_eq, true_iff, Bool.false_eq_true, false_iff]; omega)

theorem hfsIgnored_t (r : Nat) (h : ign r = true) (w : World) :
    Calls Tryd.prog 84 #[.int .i32 r] w fun e w' => e = .returned (.bool true) ∧ w = w' := by
  have := hfsIgnored_any r w; rwa [h] at this
theorem hfsIgnored_f (r : Nat) (h : ign r = false) (w : World) :
    Calls Tryd.prog 84 #[.int .i32 r] w fun e w' => e = .returned (.bool false) ∧ w = w' := by
  have := hfsIgnored_any r w; rwa [h] at this

/-- What is left of the code points from i on. -/
def rest (R : List Nat) (i : Nat) : List Nat := (R.drop i).filter fun r => !ign r
theorem rest_end {R : List Nat} {i : Nat} (h : R.length ≤ i) : rest R i = [] := by simp [rest, List.drop_eq_nil_of_le h]
theorem rest_skip {R : List Nat} {i : Nat} (h : i < R.length) (hi : ign (R.getD i 0) = true) : rest R (i + 1) = rest R i := by
  have e : R.drop i = R.getD i 0 :: R.drop (i + 1) := by rw [List.drop_eq_getElem_cons h]; simp [List.getD, h]
  rw [rest, rest, e, List.filter_cons, if_neg (by rw [hi]; simp)]
theorem rest_take {R : List Nat} {i : Nat} (h : i < R.length) (hi : ign (R.getD i 0) = false) : rest R i = R.getD i 0 :: rest R (i + 1) := by
  have e : R.drop i = R.getD i 0 :: R.drop (i + 1) := by rw [List.drop_eq_getElem_cons h]; simp [List.getD, h]
  rw [rest, rest, e, List.filter_cons, if_pos (by rw [hi]; rfl)]

/-- What IsHFSDot answers. -/
def hfsDot (R needle : List Nat) : Bool := lowS (rest R 0) == 46 :: needle

set_option maxHeartbeats 2000000 in
theorem isHFSDot_any (s nd : ByteArray) (w : World) (hs : s.size ≤ 70368744177664) (hn : nd.size ≤ 100) (hasc : ∀ j, j < nd.size → bx nd j < 128) :
    Calls Tryd.prog 69 #[.string s, .string nd] w fun e w' => e = .returned (.bool (hfsDot (runes s) (nb nd))) ∧ Below w.heap.size w w' := by
  obtain ⟨cap, w1, hconv, hb1, hz1, hat1⟩ := run_runes w s hs
  have hRlt : Hid (∀ c ∈ runes s, c < 1114112) := Lib.hid (runesN_lt s s.size 0)
  have hRlen : (runes s).length ≤ 70368744177664 := Nat.le_trans (runesN_length s s.size 0) hs
  generalize hR : runes s = R at hconv hat1 hRlt hRlen
  have HR := Lib.hid hR; clear hR
  have HB := Lib.hid hb1; clear hb1
  have HZ := Lib.hid hz1; clear hz1
  have HA := Lib.hid hat1; clear hat1
  have HASC := Lib.hid hasc; clear hasc
  go_enter Tryd.func69, Tryd.ntmps69
  go_wp2
  clear hconv
  go_loop [6] (fun i => ∃ k : Nat, k ≤ R.length ∧ i = .int .i64 k ∧ rest R k = rest R 0) (fun i => R.length - (intOf i).toNat)
  case atStart => exact ⟨0, Nat.zero_le _, rfl, rfl⟩
  case round =>
    obtain ⟨k, hk, rfl, hrest⟩ := hrel
    have HREST := Lib.hid hrest; clear hrest
    by_cases hlt : k < R.length
    · have hcell := HA.out k hlt
      generalize hc : R.getD k 0 = c at hcell
      have HC := Lib.hid hc; clear hc
      by_cases hi : ign c = true
      · have HI := Lib.hid hi; clear hi
        go_wp2_with (go_at_call 84; refine (hfsIgnored_t _ HI.out _).mono ?_; rintro e w' ⟨rfl, rfl⟩)
        go_round
        case rel => exact ⟨k + 1, by omega, by go_num, (rest_skip hlt (by rw [HC.out]; exact HI.out)).trans HREST.out⟩
        case measure => simp [intOf]; omega
      · have HI := Lib.hid (Bool.eq_false_iff.mpr hi); clear hi
        have hnge : ¬ (R.length : Int) ≤ k := by omega
        by_cases h46 : c = 46
        · have q1 : ((c : Int) != 46) = false := by simp [h46]
          have H46 := Lib.hid h46; clear h46
          go_wp2_with (go_at_call 84; refine (hfsIgnored_f _ HI.out _).mono ?_; rintro e w' ⟨rfl, rfl⟩)
          have hstart : lowS (rest R 0) = 46 :: lowS (rest R (k + 1)) := by
            have hr := rest_take hlt (by rw [HC.out]; exact HI.out)
            rw [← HREST.out, hr, HC.out, H46.out]; rfl
          have HST := Lib.hid hstart; clear hstart
          have hz1 := HZ.out
          generalize hB1 : w1.heap.size = b1
          have HB1 := Lib.hid hB1; clear hB1
          have hbi : Below w.heap.size w (w1.iter nd 0) := HB.out.alloc (by rw [hz1]; omega) _
          have hati : RunesAt (w1.iter nd 0) w.heap.size R := HA.out.below ((Below.refl _ _).alloc (Nat.le_refl _) _) (by rw [hz1]; omega)
          have hiter : (w1.iter nd 0).heap[b1]? = some (.stringIter nd 0) := by rw [← HB1.out]; exact World.iter_heap _ _ _
          have hlt1 : w.heap.size < b1 := by rw [← HB1.out]; omega
          generalize w1.iter nd 0 = w2 at hbi hati hiter
          have HBI := Lib.hid hbi; clear hbi
          have HAI := Lib.hid hati; clear hati
          have HIT := Lib.hid hiter; clear hiter
          clear hz1
          go_loopw [6] (fun i wr => ∃ k j : Nat, k ≤ R.length ∧ j ≤ nd.size ∧ i = .int .i64 k ∧ Below w.heap.size w wr ∧ RunesAt wr w.heap.size R ∧ wr.heap[b1]? = some (.stringIter nd j) ∧ hfsDot R (nb nd) = (lowS (rest R k) == (nb nd).drop j)) (fun _ wr => nd.size - wr.iterPos b1)
          case atStart => exact ⟨k + 1, 0, by omega, by omega, by go_num, HBI.out, HAI.out, HIT.out, by unfold hfsDot; rw [HST.out]; simp⟩
          case round =>
            clear HREST HC HI H46 HST HBI HAI HIT
            clear hlt hnge
            obtain ⟨k, j, hk, hj, rfl, hbw, haw, hit, hres⟩ := hrel
            have HRES := Lib.hid hres; clear hres
            by_cases hlt : j < nd.size
            · have hx := HASC.out j hlt
              have hnx := Lib.run_next_ascii_at (P := Tryd.prog) wr b1 nd j 0 hit hlt (by rw [bx_get]; exact hx)
              rw [bx_get] at hnx
              have hdrop : (nb nd).drop j = bx nd j :: (nb nd).drop (j + 1) := by
                rw [List.drop_eq_getElem_cons (by rw [nb_length]; exact hlt), bx_getElem]
              generalize bx nd j = x at hx hnx hdrop
              have HDROP := Lib.hid hdrop; clear hdrop
              have hb2 : Below w.heap.size w (wr.iterAt b1 nd (j + 1)) := Lib.below_iterAt hbw (by omega) _ _
              have ha2 : RunesAt (wr.iterAt b1 nd (j + 1)) w.heap.size R := haw.below (Lib.below_iterAt (Below.refl b1 wr) (Nat.le_refl _) _ _) hlt1
              have hi2 := Lib.iterAt_heap wr b1 nd j (j + 1) hit
              have hp1 : wr.iterPos b1 = j := by simp [World.iterPos, hit]
              have HP1 := Lib.hid hp1; clear hp1
              clear hbw haw hit
              go_wp2
              generalize wr.iterAt b1 nd (j + 1) = w3 at hb2 ha2 hi2
              have HB2 := Lib.hid hb2; clear hb2
              have HA2 := Lib.hid ha2; clear ha2
              have hp2 : w3.iterPos b1 = j + 1 := by simp [World.iterPos, hi2]
              have HI2 := Lib.hid hi2; clear hi2
              have HP2 := Lib.hid hp2; clear hp2
              clear hnx
              go_loop [6] (fun i => ∃ m : Nat, m ≤ R.length ∧ i = .int .i64 m ∧ rest R m = rest R k) (fun i => R.length - (intOf i).toNat)
              case atStart => exact ⟨k, hk, rfl, rfl⟩
              case round =>
                obtain ⟨m, hm, rfl, hrest⟩ := hrel
                have HREST := Lib.hid hrest; clear hrest
                by_cases hlm : m < R.length
                · have hcell := HA2.out m hlm
                  generalize hc : R.getD m 0 = c at hcell
                  have HC := Lib.hid hc; clear hc
                  by_cases hi : ign c = true
                  · have HI := Lib.hid hi; clear hi
                    go_wp2_with (go_at_call 84; refine (hfsIgnored_t _ HI.out _).mono ?_; rintro e w' ⟨rfl, rfl⟩)
                    go_round
                    case rel => exact ⟨m + 1, by omega, by go_num, (rest_skip hlm (by rw [HC.out]; exact HI.out)).trans HREST.out⟩
                    case measure => simp [intOf]; omega
                  · have HI := Lib.hid (Bool.eq_false_iff.mpr hi); clear hi
                    have hnge : ¬ (R.length : Int) ≤ m := by omega
                    have hres2 : hfsDot R (nb nd) = (lowN c :: lowS (rest R (m + 1)) == x :: (nb nd).drop (j + 1)) := by
                      have hr := rest_take hlm (by rw [HC.out]; exact HI.out)
                      rw [HRES.out, HDROP.out, ← HREST.out, hr, HC.out]; rfl
                    have HRES2 := Lib.hid hres2; clear hres2
                    by_cases h127 : (c : Int) > 127
                    · go_wp2_with (go_at_call 84; refine (hfsIgnored_f _ HI.out _).mono ?_; rintro e w' ⟨rfl, rfl⟩)
                      go_ret
                      refine ⟨ret_bool ?_, HB2.out⟩
                      rw [HRES2.out]; symm; simp
                      intro h; exfalso; unfold lowN at h; split at h <;> omega
                    · have hlb : ((lowN c : Nat) : Int) ≤ 255 := by have := lowN_lt (show c < 256 by omega); omega
                      by_cases hlow : lowN c = x
                      · have hq : (((lowN c : Nat) : Int) != (x : Int)) = false := by simp [hlow]
                        have HLOW := Lib.hid hlow; clear hlow
                        go_wp2_with (first | (go_at_call 84; refine (hfsIgnored_f _ HI.out _).mono ?_; rintro e w' ⟨rfl, rfl⟩) | (go_at_call 70; refine (low_any _ (by omega) _).mono ?_; rintro e w' ⟨rfl, rfl⟩))
                        go_roundw
                        case rel =>
                          refine ⟨m + 1, j + 1, by omega, by omega, by go_num, HB2.out, HA2.out, HI2.out, ?_⟩
                          rw [HRES2.out, HLOW.out]; simp
                        case measure => rw [HP1.out, HP2.out]; omega
                      · have hq : (((lowN c : Nat) : Int) != (x : Int)) = true := by simp; omega
                        go_wp2_with (first | (go_at_call 84; refine (hfsIgnored_f _ HI.out _).mono ?_; rintro e w' ⟨rfl, rfl⟩) | (go_at_call 70; refine (low_any _ (by omega) _).mono ?_; rintro e w' ⟨rfl, rfl⟩))
                        go_ret
                        refine ⟨ret_bool ?_, HB2.out⟩
                        rw [HRES2.out]; symm; simp
                        intro h; exact absurd h hlow
                · have hge : (R.length : Int) ≤ m := by omega
                  go_wp2
                  go_ret
                  refine ⟨ret_bool ?_, HB2.out⟩
                  rw [HRES.out, HDROP.out, ← HREST.out, rest_end (by omega)]
                  rfl
            · have hnx := Lib.run_next_end_at (P := Tryd.prog) wr b1 nd j 0 hit hlt
              have HAW := Lib.hid haw; clear haw
              have HBW := Lib.hid hbw; clear hbw
              clear hit
              go_wp2
              clear hnx
              go_loop [6] (fun i => ∃ m : Nat, m ≤ R.length ∧ i = .int .i64 m ∧ rest R m = rest R k) (fun i => R.length - (intOf i).toNat)
              case atStart => exact ⟨k, hk, rfl, rfl⟩
              case round =>
                obtain ⟨m, hm, rfl, hrest⟩ := hrel
                have HREST := Lib.hid hrest; clear hrest
                have hres2 : hfsDot R (nb nd) = (rest R m == []) := by
                  rw [HRES.out, HREST.out, List.drop_eq_nil_of_le (by rw [nb_length]; omega)]
                  cases rest R k <;> rfl
                have HRES2 := Lib.hid hres2; clear hres2
                by_cases hlm : m < R.length
                · have hcell := HAW.out m hlm
                  generalize hc : R.getD m 0 = c at hcell
                  have HC := Lib.hid hc; clear hc
                  by_cases hi : ign c = true
                  · have HI := Lib.hid hi; clear hi
                    go_wp2_with (go_at_call 84; refine (hfsIgnored_t _ HI.out _).mono ?_; rintro e w' ⟨rfl, rfl⟩)
                    go_round
                    case rel => exact ⟨m + 1, by omega, by go_num, (rest_skip hlm (by rw [HC.out]; exact HI.out)).trans HREST.out⟩
                    case measure => simp [intOf]; omega
                  · have HI := Lib.hid (Bool.eq_false_iff.mpr hi); clear hi
                    go_wp2_with (go_at_call 84; refine (hfsIgnored_f _ HI.out _).mono ?_; rintro e w' ⟨rfl, rfl⟩)
                    go_ret
                    refine ⟨ret_bool ?_, HBW.out⟩
                    rw [HRES2.out, rest_take hlm (by rw [HC.out]; exact HI.out)]
                    simp; omega
                · go_wp2
                  go_ret
                  refine ⟨ret_bool ?_, HBW.out⟩
                  rw [HRES2.out, rest_end (by omega)]
                  simp; omega
        · have q1 : ((c : Int) != 46) = true := by simp; omega
          go_wp2_with (go_at_call 84; refine (hfsIgnored_f _ HI.out _).mono ?_; rintro e w' ⟨rfl, rfl⟩)
          go_ret
          refine ⟨ret_bool ?_, HB.out⟩
          have hr := rest_take hlt (by rw [HC.out]; exact HI.out)
          rw [HC.out] at hr
          unfold hfsDot
          rw [← HREST.out, hr]
          symm
          simp [lowS]
          intro h
          exfalso
          unfold lowN at h
          split at h <;> omega
    · have hge : (R.length : Int) ≤ k := by omega
      go_wp2
      go_ret
      refine ⟨ret_bool ?_, HB.out⟩
      unfold hfsDot
      rw [← HREST.out, rest_end (by omega)]
      rfl

def gitN : List Nat := [103, 105, 116]
def gitmodulesN : List Nat := [103, 105, 116, 109, 111, 100, 117, 108, 101, 115]

set_option maxHeartbeats 400000 in
theorem isHFSDotGit_any (s : ByteArray) (w : World) (hs : s.size ≤ 70368744177664) :
    Calls Tryd.prog 47 #[.string s] w fun e w' => e = .returned (.bool (hfsDot (runes s) gitN)) ∧ Below w.heap.size w w' := by
  go_enter Tryd.func47, Tryd.ntmps47
  go_wp2_with fail
  with_reducible refine (isHFSDot_any s _ _ hs (by decide) (by decide)).mono ?_
  rintro e w' ⟨rfl, hb⟩
  have HB := Lib.hid hb; clear hb
  rw [show nb { data := #[103, 105, 116] } = gitN from rfl]
  generalize hq : hfsDot (runes s) gitN = B
  have HQ := Lib.hid hq; clear hq
  go_wp2
  go_ret
  exact ⟨ret_bool HQ.out.symm, HB.out⟩

set_option maxHeartbeats 400000 in
theorem isHFSDotGitmodules_any (s : ByteArray) (w : World) (hs : s.size ≤ 70368744177664) :
    Calls Tryd.prog 49 #[.string s] w fun e w' => e = .returned (.bool (hfsDot (runes s) gitmodulesN)) ∧ Below w.heap.size w w' := by
  go_enter Tryd.func49, Tryd.ntmps49
  go_wp2_with fail
  with_reducible refine (isHFSDot_any s _ _ hs (by decide) (by decide)).mono ?_
  rintro e w' ⟨rfl, hb⟩
  have HB := Lib.hid hb; clear hb
  rw [show nb { data := #[103, 105, 116, 109, 111, 100, 117, 108, 101, 115] } = gitmodulesN from rfl]
  generalize hq : hfsDot (runes s) gitmodulesN = B
  have HQ := Lib.hid hq; clear hq
  go_wp2
  go_ret
  exact ⟨ret_bool HQ.out.symm, HB.out⟩
end Go.Proofs.YteipeagdflcjjaaDoor
