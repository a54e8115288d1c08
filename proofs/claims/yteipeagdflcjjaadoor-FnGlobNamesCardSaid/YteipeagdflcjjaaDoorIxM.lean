/- index's match: a pattern of signs, strokes among them, against a name. -/
import Derived.Test.YteipeagdflcjjaaDoorIxC
namespace Go.Proofs.YteipeagdflcjjaaDoor.Ix
open Go.RowKit
set_option linter.unusedSimpArgs false
set_option linter.unusedVariables false

theorem acc {T : List Tok} {sb : ByteArray} {w w' : World} {e : Ending} (fin : Bool) (h : IChunkPost T sb w e w') :
    ∃ (rs : ByteArray) (ok : Bool), e = .returned (.tuple #[.string rs, .bool ok, .nilIface]) ∧ rs.size ≤ 1000 ∧ Asc rs ∧ ((ok && taken fin rs) = true → chP hasR T (nb sb) = some (nb rs)) ∧
      ((ok && taken fin rs) = false → (chP hasR T (nb sb) = none ∨ ∃ u : ByteArray, chP hasR T (nb sb) = some (nb u) ∧ taken fin u = false)) ∧ Below w.heap.size w w' := by
  obtain ⟨hb, ⟨h1, rfl⟩ | ⟨u, h1, h2, h3, rfl⟩⟩ := h
  · exact ⟨⟨#[]⟩, false, rfl, by decide, fun j hj => absurd (show j < 0 from hj) (Nat.not_lt_zero _), fun h => absurd h (by simp), fun _ => .inl h1, hb⟩
  · exact ⟨u, true, rfl, h3, h2, fun _ => h1, fun h => .inr ⟨u, h1, by simpa using h⟩, hb⟩
theorem rest_fin {t : Tok} {r : List Tok} {pr : ByteArray} (h : nb pr = texts (restOf (t :: r))) : (restOf (t :: r)).isEmpty = (pr.size == 0) := by
  cases he : (restOf (t :: r)).isEmpty with
  | true => rw [size_nil (by rw [h, List.isEmpty_iff.mp he]; rfl)]; rfl
  | false =>
    symm; rw [beq_eq_false_iff_ne]; intro e
    rw [List.isEmpty_eq_false_iff] at he
    exact he ((texts_nil_iff _).mp (h ▸ nb_nil e))
def MPost (G : Bool) (w : World) (e : Ending) (w' : World) : Prop := e = .returned (.tuple #[.bool G, .nilIface]) ∧ Below w.heap.size w w'

set_option maxRecDepth 100000 in
set_option maxHeartbeats 8000000 in
theorem match_any (T : List Tok) (pb0 sb0 : ByteArray) (w : World) (h0 : ISt (gn hasR T (nb sb0)) T pb0 sb0) :
    Calls Tryd.prog 53 #[.string pb0, .string sb0] w (MPost (gn hasR T (nb sb0)) w) := by
  have H0 := Lib.hid h0; clear h0
  generalize gn hasR T (nb sb0) = G at H0 ⊢
  go_enter Tryd.func53, Tryd.ntmps53
  go_wp2
  go_step3
  go_wp2
  go_step3
  go_wp2
  go_loopw [0, 1] (fun p s wr => ∃ T' pb sb, p = .string pb ∧ s = .string sb ∧ ISt G T' pb sb ∧ Below w.heap.size w wr) (fun p _ _ => (strOf p).size)
  case atStart => exact ⟨T, pb0, sb0, rfl, rfl, H0.out, Below.refl _ _⟩
  case round =>
    clear H0
    obtain ⟨T', pb, sb, rfl, rfl, hst, hbel⟩ := hrel
    have HST := Lib.hid hst; clear hst
    have HB := Lib.hid hbel; clear hbel
    cases T' with
    | nil =>
      have hz : pb.size = 0 := size_nil HST.out.text
      have HR : Hid (G = (nb sb).isEmpty) := Lib.hid HST.out.res
      by_cases hs : sb.size = 0
      · have e1 : ((sb.size : Int) == 0) = true := by rw [hs]; rfl
        have HR2 : Hid (G = true) := Lib.hid (HR.out.trans (by rw [nb_nil hs]; rfl))
        clear hs
        go_wp2
        (repeat rw [Exit.noGoto_ret]); go_ret2
        exact ⟨by rw [HR2.out]; rfl, HB.out⟩
      · have HR2 : Hid (G = false) := Lib.hid (HR.out.trans (by rw [List.isEmpty_eq_false_iff]; intro e; exact hs (size_nil e)))
        have e1 : ((sb.size : Int) == 0) = false := beq_eq_false_iff_ne.mpr (by omega)
        clear hs
        go_wp2
        (repeat rw [Exit.noGoto_ret]); go_ret2
        exact ⟨by rw [HR2.out]; rfl, HB.out⟩
    | cons t r =>
      have hps := size_none HST.out.text
      have hss := HST.out.ss
      go_wp2_with fail
      with_reducible refine (scanChunk_any t r pb _ HST.out.text HST.out.good HST.out.ps).mono ?_
      rintro e w1 ⟨ck, pr, rfl, hck, hpr, hcs, hprs, m1, hw1⟩
      have HCK := Lib.hid hck; have HPR := Lib.hid hpr; have HCS := Lib.hid hcs; have HPRS := Lib.hid hprs
      have HB1 : Hid (Below w.heap.size w w1) := Lib.hid (by rw [hw1]; exact below_drewN HB.out _)
      have HLT : Hid (pr.size < pb.size) := Lib.hid (by rw [← nb_length pr, ← nb_length pb, hpr, HST.out.text]; exact rest_text t r)
      have HFIN := Lib.hid (rest_fin hpr)
      clear hck hpr hcs hprs hw1 hps HB
      go_wp2_with fail
      with_reducible refine (matchChunk_any (chOf (t :: r)) ck sb _ ⟨HCK.out, good_chOf HST.out.good, HST.out.asc, HCS.out, HST.out.ss, rfl⟩).mono ?_
      rintro e w2 hpost
      obtain ⟨rs, ok, rfl, hrs, hra, hy, hn, hb2⟩ := acc (pr.size == 0) hpost
      have HRS := Lib.hid hrs; have HRA := Lib.hid hra; have HY := Lib.hid hy; have HN := Lib.hid hn
      have HB2 : Hid (Below w.heap.size w w2) := Lib.hid (HB1.out.trans (hb2.mono HB1.out.size))
      clear hpost hrs hra hy hn hb2 HB1
      go_upto_region 6 with (fail)
      go_cut [41] (fun v wx => v = .bool (ok && taken (pr.size == 0) rs) ∧ wx = w2)
      case first => as_aux_lemma =>
        cases ok with
        | false =>
          go_wp2
          go_meet
          case rel => exact ⟨rfl, rfl⟩
        | true =>
          by_cases hr0 : rs.size = 0
          · have q1 : ((rs.size : Int) == 0) = true := by rw [hr0]; rfl
            have HT : Hid (taken (pr.size == 0) rs = true) := Lib.hid (by unfold taken; rw [hr0]; rfl)
            clear hr0
            go_wp2
            go_meet
            case rel => exact ⟨by rw [HT.out]; rfl, rfl⟩
          · have q1 : ((rs.size : Int) == 0) = false := beq_eq_false_iff_ne.mpr (by omega)
            by_cases hp0 : pr.size = 0
            · have q2 : ¬ (0 : Int) < pr.size := by omega
              have HT2 : Hid (taken (pr.size == 0) rs = false) := Lib.hid (by unfold taken; rw [hp0, show (rs.size == 0) = false from beq_eq_false_iff_ne.mpr hr0]; rfl)
              clear hr0 hp0
              go_wp2
              go_meet
              case rel => exact ⟨by rw [HT2.out, decide_eq_false (by omega)]; rfl, rfl⟩
            · have q2 : (0 : Int) < pr.size := by omega
              have HT2 : Hid (taken (pr.size == 0) rs = true) := Lib.hid (by unfold taken; rw [show (pr.size == 0) = false from beq_eq_false_iff_ne.mpr hp0]; simp)
              clear hr0 hp0
              go_wp2
              go_meet
              case rel => exact ⟨by rw [HT2.out, decide_eq_true (by omega)]; rfl, rfl⟩
      case rest =>
      obtain ⟨rfl, hw2⟩ := hcut
      subst hw2
      cases hacc : (ok && taken (pr.size == 0) rs) with
      | true =>
        have HS2 : Hid (ISt G (restOf (t :: r)) pr rs) := Lib.hid (HST.out.more HPR.out HPRS.out HRA.out HRS.out (by
          rw [Bool.and_eq_true] at hacc
          exact foP_yes (HY.out (by rw [hacc.1, hacc.2]; rfl)) (by rw [HFIN.out]; exact hacc.2)))
        have hlt := HLT.out
        clear hacc
        go_wp2
        go_roundw
        case rel => exact ⟨_, _, _, rfl, rfl, HS2.out, HB2.out⟩
        case measure => simp [strOf]; omega
      | false =>
        have HNO := Lib.hid (foP_no (star := t.isStar) (HN.out hacc))
        clear hacc HY HN HRS HRA
        cases hst : t.isStar with
        | false =>
          have HG : Hid (G = false) := Lib.hid (HST.out.stop (by rw [HFIN.out, HNO.out, if_neg (by rw [hst]; decide)]))
          clear hst
          go_wp2
          (repeat rw [Exit.noGoto_ret]); go_ret2
          exact ⟨by rw [HG.out]; rfl, HB2.out⟩
        | true =>
          have HF : Hid (foP hasR t.isStar (chOf (t :: r)) (pr.size == 0) (nb sb) = srP hasR (chOf (t :: r)) (pr.size == 0) (nb sb)) := Lib.hid (by rw [HNO.out, if_pos hst])
          clear hst HNO
          go_wp2
          go_loopw [1, 11] (fun nm i wr => ∃ k : Nat, k ≤ sb.size ∧ nm = .string sb ∧ i = .int .i64 k ∧ srP hasR (chOf (t :: r)) (pr.size == 0) (nb sb) = srP hasR (chOf (t :: r)) (pr.size == 0) ((nb sb).drop k) ∧ Below w.heap.size w wr) (fun _ i _ => sb.size - (intOf i).toNat)
          case atStart => exact ⟨0, Nat.zero_le _, rfl, rfl, rfl, HB2.out⟩
          case round =>
            clear HB2
            obtain ⟨k, hk, rfl, rfl, hsr, hbel⟩ := hrel
            have HSR := Lib.hid hsr; clear hsr
            have HB := Lib.hid hbel; clear hbel
            by_cases hlt : k < sb.size
            · have HD : Hid ((nb sb).drop k = bx sb k :: nb (sb.extract (k + 1) sb.size)) := Lib.hid (by rw [nb_tail]; exact drop_bx sb k hlt)
              have hle : (k : Int) + 1 ≤ sb.size := by omega
              have HSS : Hid ((sb.extract (k + 1) sb.size).size ≤ 1000) := Lib.hid (by rw [size_tail]; omega)
              have HAS : Hid (Asc (sb.extract (k + 1) sb.size)) := Lib.hid (HST.out.asc.extract _ _)
              go_upto_region 14 with (fail)
              go_wp2_with fail
              with_reducible refine (matchChunk_any (chOf (t :: r)) ck (sb.extract (k + 1) sb.size) _ ⟨HCK.out, good_chOf HST.out.good, HAS.out, HCS.out, HSS.out, rfl⟩).mono ?_
              rintro e w3 hpost
              obtain ⟨us, ok2, rfl, hrs, hra, hy, hn, hb2⟩ := acc (pr.size == 0) hpost
              have HRS := Lib.hid hrs; have HRA := Lib.hid hra; have HY := Lib.hid hy; have HN := Lib.hid hn
              have HB2 : Hid (Below w.heap.size w w3) := Lib.hid (HB.out.trans (hb2.mono HB.out.size))
              clear hpost hrs hra hy hn hb2 HB
              cases ok2 with
              | false =>
                have HSR2 : Hid (srP hasR (chOf (t :: r)) (pr.size == 0) (nb sb) = srP hasR (chOf (t :: r)) (pr.size == 0) ((nb sb).drop (k + 1))) := Lib.hid (by
                  rw [HSR.out, HD.out, srP_no (HN.out rfl), nb_tail])
                go_wp2
                go_roundw
                case rel => exact ⟨k + 1, by omega, rfl, by go_num, HSR2.out, HB2.out⟩
                case measure => simp [intOf] <;> omega
              | true =>
                by_cases htk : taken (pr.size == 0) us = true
                · have HS2 : Hid (ISt G (restOf (t :: r)) pr us) := Lib.hid (HST.out.more HPR.out HPRS.out HRA.out HRS.out (by
                    rw [HFIN.out, HF.out, HSR.out, HD.out]
                    exact srP_yes (HY.out (by rw [htk]; rfl)) htk))
                  have hlt2 := HLT.out
                  by_cases hp0 : pr.size = 0
                  · have q1 : ((pr.size : Int) == 0) = true := by rw [hp0]; rfl
                    have q2 : ¬ (0 : Int) < us.size := by
                      unfold taken at htk
                      rw [hp0] at htk
                      have : us.size = 0 := by simpa using htk
                      omega
                    clear htk hp0
                    go_wp2
                    go_roundw
                    case rel => exact ⟨_, _, _, rfl, rfl, HS2.out, HB2.out⟩
                    case measure => simp [strOf]; omega
                  · have q1 : ((pr.size : Int) == 0) = false := beq_eq_false_iff_ne.mpr (by omega)
                    clear htk hp0
                    go_wp2
                    go_roundw
                    case rel => exact ⟨_, _, _, rfl, rfl, HS2.out, HB2.out⟩
                    case measure => simp [strOf]; omega
                · have htk2 : taken (pr.size == 0) us = false := by simpa using htk
                  have hp0 : pr.size = 0 ∧ us.size ≠ 0 := by
                    unfold taken at htk2
                    rw [Bool.or_eq_false_iff] at htk2
                    exact ⟨by simpa using htk2.2, by simpa using htk2.1⟩
                  have q1 : ((pr.size : Int) == 0) = true := by rw [hp0.1]; rfl
                  have q2 : (0 : Int) < us.size := by omega
                  have HSR2 : Hid (srP hasR (chOf (t :: r)) (pr.size == 0) (nb sb) = srP hasR (chOf (t :: r)) (pr.size == 0) ((nb sb).drop (k + 1))) := Lib.hid (by
                    rw [HSR.out, HD.out, srP_no (HN.out (by rw [htk2]; rfl)), nb_tail])
                  clear htk htk2 hp0
                  go_wp2
                  go_roundw
                  case rel => exact ⟨k + 1, by omega, rfl, by go_num, HSR2.out, HB2.out⟩
                  case measure => simp [intOf] <;> omega
            · have HG : Hid (G = false) := Lib.hid (HST.out.stop (by
                rw [HFIN.out, HF.out, HSR.out, List.drop_eq_nil_of_le (by rw [nb_length]; omega)]
                rfl))
              go_wp2
              (repeat rw [Exit.noGoto_ret]); go_ret2
              exact ⟨by rw [HG.out]; rfl, HB.out⟩
end Go.Proofs.YteipeagdflcjjaaDoor.Ix
