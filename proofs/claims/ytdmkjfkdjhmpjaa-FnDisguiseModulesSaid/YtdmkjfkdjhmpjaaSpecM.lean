/- The reference's answer on the short names of .gitmodules: spec.DisguiseModules. -/
import Derived.Test.YtdmkjfkdjhmpjaaSpecN
import Derived.Deep.RegionHeld3
import Derived.IntWalk
import Derived.Deep.CutBlock
import Derived.Deep.QuietTactic
import Derived.BigQuiet
namespace Go.Proofs.Ytdmkjfkdjhmpjaa
open Go.RowKit
set_option linter.unusedSimpArgs false
set_option linter.unusedVariables false

def ModPost (s : ByteArray) (w : World) (e : Ending) (w' : World) : Prop := ∃ b : Bool, e = .returned (.bool b) ∧ (b = true ↔ modules s) ∧ Below w.heap.size w w'

def gitmodT : List Nat := [103, 105, 116, 109, 111, 100, 126]

/-- gitmod, a tilde and a number: what begins so. -/
theorem begins_short_name (s : ByteArray) (d : Nat) (hd : 49 ≤ d ∧ d ≤ 52) : begins s (gitmodT ++ [d]) = true ↔ (8 ≤ s.size ∧ begins s gitmod = true ∧ bx s 6 = 126 ∧ bx s 7 = d) := by
  by_cases h8 : 8 ≤ s.size
  · have e : (nb s).take 8 = (nb s).take 6 ++ [bx s 6, bx s 7] := by
      rw [List.take_succ_eq_append_getElem (by rw [nb_length]; omega), List.take_succ_eq_append_getElem (by rw [nb_length]; omega), bx_getElem, bx_getElem]
      simp
    unfold begins
    rw [show (gitmodT ++ [d]).length = 8 from rfl, show gitmod.length = 6 from rfl, e, beq_iff_eq, beq_iff_eq]
    have l6 : (lowS ((nb s).take 6)).length = 6 := by simp [lowS, nb_length]; omega
    have e2 : lowS ((nb s).take 6 ++ [bx s 6, bx s 7]) = lowS ((nb s).take 6) ++ [lowN (bx s 6), lowN (bx s 7)] := by simp [lowS]
    rw [e2, show gitmodT ++ [d] = gitmod ++ [126, d] from rfl]
    constructor
    · intro h
      obtain ⟨h1, h2⟩ := List.append_inj h (by rw [l6]; rfl)
      simp only [List.cons.injEq, and_true] at h2
      refine ⟨h8, h1, ?_, ?_⟩
      · have := h2.1; unfold lowN at this; split at this <;> omega
      · have := h2.2; unfold lowN at this; split at this <;> omega
    · rintro ⟨_, h1, h2, h3⟩
      rw [h1, h2, h3]
      have : lowN d = d := by unfold lowN; rw [if_neg (by omega)]
      rw [this]; rfl
  · constructor
    · intro h; exact absurd (begins_le h) h8
    · intro h; exact absurd h.1 h8

theorem short_iff (s : ByteArray) : shortOk s = true ↔ ∃ d, (49 ≤ d ∧ d ≤ 52) ∧ begins s (gitmodT ++ [d]) = true := by
  unfold shortOk
  simp only [Bool.and_eq_true, decide_eq_true_eq]
  constructor
  · rintro ⟨⟨h8, hb⟩, h6, h7, h7'⟩
    exact ⟨bx s 7, ⟨h7, h7'⟩, (begins_short_name s _ ⟨h7, h7'⟩).mpr ⟨h8, hb, h6, rfl⟩⟩
  · rintro ⟨d, hd, hb⟩
    obtain ⟨h8, hb, h6, h7⟩ := (begins_short_name s d hd).mp hb
    exact ⟨⟨h8, hb⟩, h6, by omega⟩

theorem lowS_one (s : ByteArray) (k : Nat) (h : k < s.size) : lowS (nb (s.extract k (k + 1))) = [lowN (bx s k)] := by
  rw [nb_extract, drop_bx h, show k + 1 - k = 1 by omega]; rfl

theorem mod_post {s : ByteArray} (hA : ¬ (begins s dotGitmodules = true ∧ tailOk ((nb s).drop 11) = true)) (hB : ¬ (shortOk s = true ∧ tailOk ((nb s).drop 8) = true)) (b : Bool)
    (h : b = true ↔ (8 ≤ s.size ∧ tailOk ((nb s).drop 8) = true ∧ ∃ m, SumAt s m 8)) : b = true ↔ modules s := by
  rw [h]
  unfold modules
  constructor
  · rintro ⟨h1, h2, h3⟩; exact .inr ⟨h1, h2, .inr h3⟩
  · rintro (h1 | ⟨h1, h2, h3 | h3⟩)
    · exact absurd h1 hA
    · exact absurd ⟨h3, h2⟩ hB
    · exact ⟨h1, h2, h3⟩

set_option maxRecDepth 100000 in
set_option maxHeartbeats 2000000 in
theorem specModules_any (s : ByteArray) (w : World) (hs : s.size ≤ maxLen) :
    Calls Try.prog 15 #[.string s] w (ModPost s w) := by
  have HS := Lib.hid hs
  unfold maxLen at hs
  go_enter Try.func15, Try.ntmps15
  go_wp2_with fail
  with_reducible refine (specBehind_any s ⟨#[46, 103, 105, 116, 109, 111, 100, 117, 108, 101, 115]⟩ _ HS.out (by decide)).mono ?_
  rintro e w1 ⟨rfl, hb⟩
  have B1 := Lib.hid hb; clear hb
  rw [show nb ⟨#[46, 103, 105, 116, 109, 111, 100, 117, 108, 101, 115]⟩ = dotGitmodules from rfl, show (⟨#[46, 103, 105, 116, 109, 111, 100, 117, 108, 101, 115]⟩ : ByteArray).size = 11 from rfl]
  cases hA : (begins s dotGitmodules && tailOk ((nb s).drop 11)) with
  | true =>
    have HA := Lib.hid (Bool.and_eq_true_iff.mp hA); clear hA
    go_wp2
    go_ret
    exact ⟨true, rfl, ⟨fun _ => .inl HA.out, fun _ => rfl⟩, B1.out⟩
  | false =>
    have HA : Hid (¬ (begins s dotGitmodules = true ∧ tailOk ((nb s).drop 11) = true)) := Lib.hid (fun h => by rw [h.1, h.2] at hA; cases hA)
    clear hA
    go_upto_region 4 with (fail)
    generalize hV : w1.alloc _ = V
    have hcell : ∀ i, i < 4 → ∃ nm : ByteArray, nb nm = [49 + i] ∧ V.cell? ⟨w1.heap.size, i, none⟩ = some (.string nm) := by
      intro i hi
      subst hV
      rw [show ∀ C : Array Value, (w1.alloc (.cells C 9)).cell? ⟨w1.heap.size, i, none⟩ = C[i]? from fun C => World.cell?_alloc_mark _ _ _ _ _]
      match i, hi with
      | 0, _ => exact ⟨_, rfl, rfl⟩
      | 1, _ => exact ⟨_, rfl, rfl⟩
      | 2, _ => exact ⟨_, rfl, rfl⟩
      | 3, _ => exact ⟨_, rfl, rfl⟩
    have hbV : Below w.heap.size w V ∧ w1.heap.size < V.heap.size := by
      subst hV
      exact ⟨B1.out.alloc B1.out.size _, by rw [heap_new_size]; omega⟩
    clear hV
    have HC := Lib.hid hcell; clear hcell
    obtain ⟨hbV, hl1⟩ := hbV
    have BV := Lib.hid hbV; clear hbV
    go_loopw [12] (fun i wr => ∃ k : Nat, k ≤ 4 ∧ i = .int .i64 k ∧ Below V.heap.size V wr ∧ ∀ d, 49 ≤ d → d < 49 + k → ¬ (begins s (gitmodT ++ [d]) = true ∧ tailOk ((nb s).drop 8) = true)) (fun i _ => 4 - (intOf i).toNat)
    case atStart => exact ⟨0, by omega, rfl, Below.refl _ _, fun d h1 h2 => by omega⟩
    case round =>
      obtain ⟨k, hk, rfl, hbw, hno⟩ := hrel
      have HNO := Lib.hid hno; clear hno
      by_cases hk4 : k < 4
      · obtain ⟨nm, hnm, hc⟩ := HC.out k hk4
        have hc2 := (hbw.cell (p := ⟨w1.heap.size, k, none⟩) hl1).trans hc
        have HBW := Lib.hid hbw; clear hbw hc
        have hn1 : nm.size = 1 := by rw [← nb_length, hnm]; rfl
        have hcat : nb ((⟨#[103, 105, 116, 109, 111, 100, 126]⟩ : ByteArray) ++ nm) = gitmodT ++ [49 + k] := by rw [nb_append, hnm]; rfl
        have hcs : ((⟨#[103, 105, 116, 109, 111, 100, 126]⟩ : ByteArray) ++ nm).size = 8 := by rw [ByteArray.size_append, hn1]; rfl
        have hl : ¬ 9223372036854775807 < 7 + nm.size := by omega
        have HCAT := Lib.hid (And.intro hcat hcs)
        clear hcat hcs hnm hn1
        go_wp2_with fail
        with_reducible refine (specBehind_any s ((⟨#[103, 105, 116, 109, 111, 100, 126]⟩ : ByteArray) ++ nm) _ HS.out (by rw [HCAT.out.2]; decide)).mono ?_
        rintro e w3 ⟨rfl, hb⟩
        have HB3 := Lib.hid (HBW.out.trans (hb.mono HBW.out.size)); clear hb
        rw [HCAT.out.1, HCAT.out.2]
        cases hX : (begins s (gitmodT ++ [49 + k]) && tailOk ((nb s).drop 8)) with
        | true =>
          have HX := Lib.hid (Bool.and_eq_true_iff.mp hX); clear hX
          go_wp2
          go_ret
          refine ⟨true, rfl, ⟨fun _ => .inr ?_, fun _ => rfl⟩, BV.out.trans (HB3.out.mono BV.out.size)⟩
          have hs1 : shortOk s = true := (short_iff s).mpr ⟨49 + k, by omega, HX.out.1⟩
          refine ⟨?_, HX.out.2, .inl hs1⟩
          unfold shortOk at hs1
          simp only [Bool.and_eq_true, decide_eq_true_eq] at hs1
          exact hs1.1.1
        | false =>
          have HX : Hid (¬ (begins s (gitmodT ++ [49 + k]) = true ∧ tailOk ((nb s).drop 8) = true)) := Lib.hid (fun h => by rw [h.1, h.2] at hX; cases hX)
          clear hX
          go_wp2
          go_roundw
          case rel =>
            refine ⟨k + 1, by omega, by go_num, HB3.out, fun d h1 h2 => ?_⟩
            by_cases e : d = 49 + k
            · subst e; exact HX.out
            · exact HNO.out d h1 (by omega)
          case measure => simp [intOf]; omega
      · have hk5 : (4 : Int) ≤ k := by omega
        have HNB : Hid (¬ (shortOk s = true ∧ tailOk ((nb s).drop 8) = true)) := Lib.hid (fun h => by
          obtain ⟨d, hd, hb⟩ := (short_iff s).mp h.1
          exact HNO.out d (by omega) (by omega) ⟨hb, h.2⟩)
        have HBW : Hid (Below w.heap.size w wr) := Lib.hid (BV.out.trans (hbw.mono BV.out.size))
        clear HNO hbw HC BV hl1
        go_upto_block 2 with (fail)
        go_cut [5] (fun i wx => ∃ n : Nat, n ≤ 6 ∧ n ≤ s.size ∧ i = .int .i64 n ∧ (∀ j, j < n → lowN (bx s j) = sumN.getD j 0) ∧ (n = 6 ∨ n = s.size ∨ lowN (bx s n) ≠ sumN.getD n 0) ∧ Below w.heap.size w wx)
        case first =>
          go_wp2_with fail
          go_loopw [5] (fun i wr2 => ∃ n : Nat, n ≤ 6 ∧ n ≤ s.size ∧ i = .int .i64 n ∧ Below w.heap.size w wr2 ∧ ∀ j, j < n → lowN (bx s j) = sumN.getD j 0) (fun i _ => 6 - (intOf i).toNat)
          case atStart => exact ⟨0, by omega, by omega, rfl, HBW.out, fun j hj => by omega⟩
          case round =>
            clear HBW
            obtain ⟨n, hn6, hns, rfl, hbw, hpre⟩ := hrel
            have HPRE := Lib.hid hpre; clear hpre
            have HBW := Lib.hid hbw; clear hbw
            by_cases hn : n < 6
            · have hn' : (n : Int) < 6 := by omega
              by_cases hs2 : n < s.size
              · have hs2' : (n : Int) < s.size := by omega
                have hlow := lowS_one s n hs2
                have hd1 := bx_lt s n
                have hsn1 : lowS (nb (s.extract n (n + 1))) = [lowN (bx s n)] := hlow
                have hsn2 : nb ((⟨#[103, 105, 55, 101, 98, 97]⟩ : ByteArray).extract n (n + 1)) = [sumN.getD n 0] := by
                  rw [nb_extract, drop_bx (by exact hn), show n + 1 - n = 1 by omega]; rfl
                have HE := Lib.hid (And.intro hsn1 hsn2); clear hsn1 hsn2 hlow
                have HX := Lib.hid (extract_le s n (n + 1) _ HS.out)
                by_cases hm : lowN (bx s n) = sumN.getD n 0
                · have HM := Lib.hid hm; clear hm
                  go_upto_region 10 with (fail)
                  have g0 : (0 : Int) ≤ (n : Int) := by omega
                  have g1 : (n : Int) + 1 ≤ s.size := by omega
                  have g2 : (n : Int) + 1 ≤ 6 := by omega
                  have g3 : (0 : Int) ≤ (n : Int) + 1 := by omega
                  have g4 : (n : Int) ≤ (n : Int) + 1 := by omega
                  have g5 : ((n : Int) + 1).toNat = n + 1 := by omega
                  have g6 : IntKind.i64.wrap ((n : Int) + 1) = (n : Int) + 1 := IntWalk.i64_in _ (by omega)
                  go_region_held3 (fun w' => Below wr.heap.size wr w')
                    (first
                      | exact (Below.refl _ _).drew
                      | exact Below.trans (by assumption) (hbn.mono (Below.size (by assumption))))
                    (first
                      | (go_at_call 29; (with_reducible refine (confLower_any _ _ HX.out).mono ?_); rintro e w' ⟨r, rfl, hr, hbn⟩; have hq : (r.toList == ((⟨#[103, 105, 55, 101, 98, 97]⟩ : ByteArray).extract n (n + 1)).toList) = true := by rw [beq_str2, hr, HE.out.1, HE.out.2, HM.out]; simp))
                  clear g0 g1 g2 g3 g4 g5 g6
                  go_wp2
                  go_roundw
                  case rel =>
                    refine ⟨n + 1, by omega, by omega, by go_num, HBW.out.trans (Below.mono (by assumption) HBW.out.size), fun j hj => ?_⟩
                    by_cases e : j = n
                    · subst e; exact HM.out
                    · exact HPRE.out j (by omega)
                  case measure => simp [intOf]; omega
                · have HM := Lib.hid hm; clear hm
                  go_upto_region 10 with (fail)
                  have g0 : (0 : Int) ≤ (n : Int) := by omega
                  have g1 : (n : Int) + 1 ≤ s.size := by omega
                  have g2 : (n : Int) + 1 ≤ 6 := by omega
                  have g3 : (0 : Int) ≤ (n : Int) + 1 := by omega
                  have g4 : (n : Int) ≤ (n : Int) + 1 := by omega
                  have g5 : ((n : Int) + 1).toNat = n + 1 := by omega
                  have g6 : IntKind.i64.wrap ((n : Int) + 1) = (n : Int) + 1 := IntWalk.i64_in _ (by omega)
                  go_region_held3 (fun w' => Below wr.heap.size wr w')
                    (first
                      | exact (Below.refl _ _).drew
                      | exact Below.trans (by assumption) (hbn.mono (Below.size (by assumption))))
                    (first
                      | (go_at_call 29; (with_reducible refine (confLower_any _ _ HX.out).mono ?_); rintro e w' ⟨r, rfl, hr, hbn⟩; have hq : (r.toList == ((⟨#[103, 105, 55, 101, 98, 97]⟩ : ByteArray).extract n (n + 1)).toList) = false := by rw [beq_str2, hr, HE.out.1, HE.out.2]; simp; exact HM.out))
                  clear g0 g1 g2 g3 g4 g5 g6
                  go_wp2
                  go_meet
                  case rel => exact ⟨n, by omega, by omega, rfl, HPRE.out, .inr (.inr HM.out), HBW.out.trans (Below.mono (by assumption) HBW.out.size)⟩
              · have hs2' : ¬ (n : Int) < s.size := by omega
                have dd : decide ((n : Int) < s.size) = false := decide_eq_false hs2'
                go_upto_region 10 with (fail)
                go_quiet (fail)
                go_wp2
                go_meet
                case rel => exact ⟨n, by omega, by omega, rfl, HPRE.out, .inr (.inl (by omega)), below_drewN HBW.out _⟩
            · have hn' : ¬ (n : Int) < 6 := by omega
              have dd : decide ((n : Int) < 6) = false := decide_eq_false hn'
              go_upto_region 10 with (fail)
              go_quiet (fail)
              go_wp2
              go_meet
              case rel => exact ⟨n, by omega, by omega, rfl, HPRE.out, .inl (by omega), below_drewN HBW.out _⟩
        case rest =>
          obtain ⟨n, hn6, hns, rfl, hpre, hend, hbw⟩ := hcut
          have hpost : Hid (∀ b : Bool, (b = true ↔ (8 ≤ s.size ∧ tailOk ((nb s).drop 8) = true ∧ ∃ m, SumAt s m 8)) → (b = true ↔ modules s)) := Lib.hid (mod_post HA.out HNB.out)
          have HPRE := Lib.hid hpre; clear hpre
          have HEND := Lib.hid hend; clear hend
          have HBW := Lib.hid hbw; clear hbw
          clear HA HNB
          by_cases h8 : 8 ≤ s.size
          · have h8' : (8 : Int) ≤ s.size := by omega
            have bn := bx_get s n (by omega)
            have bn1 := bx_get s (n + 1) (by omega)
            have ln := bx_lt s n
            have ln1 := bx_lt s (n + 1)
            have e1 : ((n : Int) + 1).toNat = n + 1 := by omega
            generalize hc : bx s n = c at bn ln
            generalize hc1 : bx s (n + 1) = c1 at bn1 ln1
            have HC := Lib.hid (And.intro hc hc1); clear hc hc1
            go_upto_region 12 with (fail)
            go_cut [66] (fun v wx => ∃ B : Bool, v = .bool B ∧ (B = true ↔ ¬ (c = 126 ∧ 49 ≤ c1 ∧ c1 ≤ 57)) ∧ wx = wc)
            case first =>
              go_wp2
              all_goals
                go_meet
                case rel =>
                  refine ⟨_, rfl, ?_, rfl⟩
                  (try simp only [bne_iff_ne, ne_eq, bne_eq_false_iff_eq, decide_eq_true_eq, true_iff, Bool.false_eq_true, false_iff, Decidable.not_not] at *)
                  omega
            case rest =>
              obtain ⟨B, rfl, hB, rfl⟩ := hcut
              cases B with
              | true =>
                have hnot := hB.mp rfl
                have HNOT := Lib.hid hnot; clear hnot hB
                go_wp2
                go_ret
                refine ⟨false, rfl, hpost.out _ ⟨fun h => absurd h (by decide), ?_⟩, HBW.out⟩
                rintro ⟨_, _, m, hm⟩
                obtain rfl : m = n := by
                  have h1 := hm.at HPRE.out
                  have h2 := hm.le
                  rcases HEND.out with h | h | h
                  · omega
                  · omega
                  · rcases Nat.lt_or_eq_of_le h1 with h3 | h3
                    · exact absurd (hm.pre n h3) h
                    · exact h3.symm
                exfalso
                apply HNOT.out
                rw [← HC.out.1, ← HC.out.2]
                exact ⟨hm.tilde, hm.first⟩
              | false =>
                have hyes : c = 126 ∧ 49 ≤ c1 ∧ c1 ≤ 57 := by
                  apply Decidable.byContradiction
                  intro h; exact absurd (hB.mpr h) (by decide)
                have HYES := Lib.hid hyes; clear hyes hB
                have hxl : (s.extract (n + 1) 8).size = 7 - n := by rw [ByteArray.size_extract]; omega
                have hconv := Lib.run_convert_string_bytes (P := Try.prog) wc 9 23 5 (s.extract (n + 1) 8) strKind bytesKind byteKind
                have hbb := bytesBelow wc 5 (s.extract (n + 1) 8)
                have hba := bytesAt_new wc 5 (s.extract (n + 1) 8)
                have HBB := Lib.hid hbb; clear hbb
                have HBA := Lib.hid hba; clear hba
                have g1 : (n : Int) + 1 ≤ 8 := by omega
                go_upto_region 15 with (fail)
                generalize Lib.bytesWorld wc 5 (s.extract (n + 1) 8) = w6 at HBB HBA
                clear hconv g1
                have HXL := Lib.hid hxl
                generalize hL : (s.extract (n + 1) 8).size = L at hxl HBA
                have HL := Lib.hid hL; clear hL
                have B6 : Hid (Below w.heap.size w w6) := Lib.hid (HBW.out.trans (HBB.out.mono HBW.out.size))
                clear HBB
                go_loop [73] (fun i => ∃ k : Nat, k ≤ L ∧ i = .int .i64 k ∧ ∀ j, j < k → 48 ≤ bx s (n + 1 + j) ∧ bx s (n + 1 + j) ≤ 57) (fun i => L - (intOf i).toNat)
                case atStart => exact ⟨0, Nat.zero_le _, rfl, fun j hj => by omega⟩
                case round =>
                  obtain ⟨k, hk, rfl, hall⟩ := hrel
                  have HALL := Lib.hid hall; clear hall
                  by_cases hkl : k < L
                  · have hcell := (HBA.out k hkl).1
                    rw [bx_extract s (n + 1) 8 k (by omega)] at hcell
                    have hbl := bx_lt s (n + 1 + k)
                    generalize hd : bx s (n + 1 + k) = d at hcell hbl
                    have HD := Lib.hid hd; clear hd
                    by_cases h48 : (48 : Int) ≤ d
                    · by_cases h57 : (d : Int) ≤ 57
                      · go_wp2
                        go_round
                        case rel =>
                          refine ⟨k + 1, by omega, by go_num, fun j hj => ?_⟩
                          by_cases e : j = k
                          · subst e; rw [HD.out]; omega
                          · exact HALL.out j (by omega)
                        case measure => simp [intOf]; omega
                      · have h57' : (57 : Int) < d := by omega
                        go_wp2
                        go_ret
                        refine ⟨false, rfl, hpost.out _ ⟨fun h => absurd h (by decide), ?_⟩, B6.out⟩
                        rintro ⟨_, _, m, hm⟩
                        obtain rfl := hm.eq HPRE.out (by rw [HC.out.1]; exact HYES.out.1)
                        by_cases e0 : k = 0
                        · subst e0
                          have := hm.first
                          rw [show m + 1 + 0 = m + 1 from rfl] at HD
                          rw [HD.out] at this; omega
                        · have := hm.digits (m + 1 + k) (by omega) (by omega)
                          rw [HD.out] at this; omega
                    · have h48' : (d : Int) < 48 := by omega
                      go_wp2
                      go_ret
                      refine ⟨false, rfl, hpost.out _ ⟨fun h => absurd h (by decide), ?_⟩, B6.out⟩
                      rintro ⟨_, _, m, hm⟩
                      obtain rfl := hm.eq HPRE.out (by rw [HC.out.1]; exact HYES.out.1)
                      by_cases e0 : k = 0
                      · subst e0
                        have := hm.first
                        rw [show m + 1 + 0 = m + 1 from rfl] at HD
                        rw [HD.out] at this; omega
                      · have := hm.digits (m + 1 + k) (by omega) (by omega)
                        rw [HD.out] at this; omega
                  · have HY := Lib.hid (extract_le s 8 s.size _ HS.out)
                    have hsum : SumAt s n 8 := ⟨hn6, HPRE.out, by rw [HC.out.1]; exact HYES.out.1, by rw [HC.out.2]; exact HYES.out.2, fun j h1 h2 => by
                      have := HALL.out (j - (n + 1)) (by omega)
                      rwa [show n + 1 + (j - (n + 1)) = j by omega] at this⟩
                    have HSUM := Lib.hid hsum; clear hsum
                    go_wp2_with fail
                    with_reducible refine (specRest_any _ _ HY.out).mono ?_
                    rintro e w7 ⟨rfl, rfl⟩
                    rw [show nb (s.extract 8 s.size) = (nb s).drop 8 from by rw [nb_extract, List.take_of_length_le (by rw [List.length_drop, nb_length]; omega)]]
                    generalize hT : tailOk ((nb s).drop 8) = T
                    have HT := Lib.hid hT; clear hT
                    go_wp2
                    go_ret
                    refine ⟨T, rfl, hpost.out _ ⟨fun h => ⟨h8, by rw [HT.out]; exact h, n, HSUM.out⟩, fun h => ?_⟩, B6.out⟩
                    rw [← HT.out]; exact h.2.1
          · have h8' : (s.size : Int) < 8 := by omega
            go_wp2
            go_ret
            exact ⟨false, rfl, hpost.out _ ⟨fun h => absurd h (by decide), fun h => absurd h.1 h8⟩, HBW.out⟩
end Go.Proofs.Ytdmkjfkdjhmpjaa
