/- zzMatch (written by gen_match.py). -/
import Derived.Test.YteipeagdflcjjaaDoorMatchP
import Derived.Deep.CutBlock
import Derived.WalkMore
namespace Go.Proofs.YteipeagdflcjjaaDoor
open Go.RowKit
set_option linter.unusedSimpArgs false
set_option linter.unusedVariables false

structure MSt (G : Bool) (T : List Tok) (pb sb : ByteArray) : Prop where
  text : nb pb = texts T
  good : ∀ t ∈ T, Tok.good t
  ps : pb.size ≤ 1000
  nm : Nm sb
  res : ∃ n, T.length ≤ n ∧ G = gm (n + 1) T (nb sb)
theorem MSt.next {G : Bool} {t : Tok} {r : List Tok} {pb pb' sb u : ByteArray} (h : MSt G (t :: r) pb sb) (hb : (t.isStar && (chOf (t :: r)).isEmpty) = false) (hf : firstOk t.isStar (chOf (t :: r)) (restOf (t :: r)).isEmpty (nb sb) = some (nb u)) (hn : Nm u) (ht : nb pb' = texts (restOf (t :: r))) : MSt G (restOf (t :: r)) pb' u ∧ pb'.size < pb.size := by
  have hsz : pb'.size < pb.size := by rw [← nb_length, ← nb_length, ht, h.text]; exact rest_text t r
  obtain ⟨n, hn1, hn2⟩ := h.res
  rw [gm_more n t r _ hb, hf] at hn2
  have := rest_len t r
  rw [List.length_cons] at hn1
  obtain ⟨m, rfl⟩ : ∃ m, n = m + 1 := ⟨n - 1, by omega⟩
  exact ⟨⟨ht, good_restOf h.good, by have := h.ps; omega, hn, m, by omega, hn2⟩, hsz⟩
theorem MSt.none {G : Bool} {t : Tok} {r : List Tok} {pb sb : ByteArray} (h : MSt G (t :: r) pb sb) (hb : (t.isStar && (chOf (t :: r)).isEmpty) = false) (hf : firstOk t.isStar (chOf (t :: r)) (restOf (t :: r)).isEmpty (nb sb) = Option.none) : G = false := by
  obtain ⟨n, _, hn2⟩ := h.res
  rw [gm_more n t r _ hb, hf] at hn2
  exact hn2
theorem MSt.one {G : Bool} {t : Tok} {r : List Tok} {pb sb : ByteArray} (h : MSt G (t :: r) pb sb) (hb : (t.isStar && (chOf (t :: r)).isEmpty) = true) : G = true := by
  obtain ⟨n, _, hn2⟩ := h.res
  rw [gm_one n t r _ hb, h.nm.not47] at hn2
  exact hn2
theorem MSt.nil {G : Bool} {pb sb : ByteArray} (h : MSt G [] pb sb) : G = (nb sb).isEmpty := by
  obtain ⟨n, _, hn2⟩ := h.res
  exact hn2

/-- What the call of zzChunk gave, and whether it is taken. -/
def Acc (ch : List Tok) (fin : Bool) (s rs : ByteArray) (ok : Bool) : Prop :=
  ((ok && taken fin rs) = true → chM ch (nb s) = some (nb rs) ∧ taken fin rs = true) ∧ ((ok && taken fin rs) = false → chM ch (nb s) = none ∨ ∃ u : ByteArray, chM ch (nb s) = some (nb u) ∧ taken fin u = false)
theorem acc_any {ch : List Tok} {s : ByteArray} {w w' : World} {e : Ending} (fin : Bool) (h : ChunkPost ch s w e w') : ∃ (rs : ByteArray) (ok : Bool), e = .returned (.tuple #[.string rs, .bool ok, .nilIface]) ∧ Acc ch fin s rs ok ∧ Below w.heap.size w w' := by
  obtain ⟨hb, ⟨h1, rfl⟩ | ⟨u, h1, _, _, rfl⟩⟩ := h
  · exact ⟨_, _, rfl, ⟨fun h => (by cases h), fun _ => .inl h1⟩, hb⟩
  · refine ⟨u, true, rfl, ⟨fun h => ⟨h1, ?_⟩, fun h => .inr ⟨u, h1, ?_⟩⟩, hb⟩
    · rwa [Bool.true_and] at h
    · rwa [Bool.true_and] at h

def MatchPost (G : Bool) (w : World) (e : Ending) (w' : World) : Prop := e = .returned (.tuple #[.bool G, .nilIface]) ∧ Below w.heap.size w w'

set_option maxRecDepth 100000 in
set_option maxHeartbeats 8000000 in
theorem zzMatch_any (T : List Tok) (pb0 sb0 : ByteArray) (w : World) (hT : nb pb0 = texts T) (hg : ∀ t ∈ T, Tok.good t) (hp : pb0.size ≤ 1000) (hn : Nm sb0) :
    Calls Tryd.prog 131 #[.string pb0, .string sb0] w (MatchPost (gm (T.length + 1) T (nb sb0)) w) := by
  have H0 : Hid (MSt (gm (T.length + 1) T (nb sb0)) T pb0 sb0) := Lib.hid ⟨hT, hg, hp, hn, T.length, Nat.le_refl _, rfl⟩
  clear hT hg hp hn
  generalize gm (T.length + 1) T (nb sb0) = G at H0 ⊢
  go_enter Tryd.func131, Tryd.ntmps131
  go_wp2
  go_step3
  go_wp2
  go_step3
  go_wp2
  go_loopw [0, 1] (fun p s wr => ∃ T' pb sb, p = .string pb ∧ s = .string sb ∧ MSt G T' pb sb ∧ Below w.heap.size w wr) (fun p _ _ => (strOf p).size)
  case atStart => exact ⟨T, pb0, sb0, rfl, rfl, H0.out, Below.refl _ _⟩
  case round =>
    clear H0
    obtain ⟨T', pb, sb, rfl, rfl, hst, hbel⟩ := hrel
    have HST := Lib.hid hst; clear hst
    have HB := Lib.hid hbel; clear hbel
    cases T' with
    | nil =>
      have hz : pb.size = 0 := size_nil HST.out.text
      have HR := Lib.hid HST.out.nil
      by_cases hs : sb.size = 0
      · have HR2 : Hid (G = true) := Lib.hid (HR.out.trans (by rw [nb_nil hs]; rfl))
        go_wp2
        (repeat rw [Exit.noGoto_ret]); go_ret2
        exact ⟨by rw [HR2.out]; first | rfl | simp [hs], HB.out⟩
      · have HR2 : Hid (G = false) := Lib.hid (HR.out.trans (by rw [List.isEmpty_eq_false_iff]; intro e; exact hs (size_nil e)))
        have e1 : ((sb.size : Int) == 0) = false := beq_eq_false_iff_ne.mpr (by omega)
        go_wp2
        (repeat rw [Exit.noGoto_ret]); go_ret2
        exact ⟨by rw [HR2.out]; rfl, HB.out⟩
    | cons t r =>
      have hps : 1 ≤ pb.size := by
        rw [← nb_length, HST.out.text, texts_cons, List.length_append]
        have := List.length_pos_iff.mpr (text_ne t)
        omega
      have hss := HST.out.nm.small
      have START : Hid (Strip (t :: r) (t :: r) pb false) := Lib.hid ⟨HST.out.text, rfl, fun h => (by cases h), fun _ => rfl, HST.out.good, HST.out.ps⟩
      go_upto_block 2 with (fail)
      go_step3
      go_upto_block 2 with (fail)
      rw [decide_eq_true (show 0 < pb.size from by omega)]
      go_cut [0, 6] (fun p bb wx => ∃ (pb2 : ByteArray) (b2 : Bool), p = .string pb2 ∧ bb = .bool b2 ∧ b2 = t.isStar ∧ nb pb2 = texts (noStars (t :: r)) ∧ pb2.size ≤ 1000 ∧ wx = wr)
      case first => as_aux_lemma =>
        go_wp2_with fail
        go_loop [0, 6] (fun p bb => ∃ B pb2 b2, p = .string pb2 ∧ bb = .bool b2 ∧ Strip (t :: r) B pb2 b2) (fun p _ => (strOf p).size)
        case atStart => exact ⟨_, _, false, rfl, rfl, START.out⟩
        case round =>
          obtain ⟨B, pb2, b2, rfl, rfl, hs⟩ := hrel
          have HS := Lib.hid hs; clear hs
          cases B with
          | nil =>
            have hz : pb2.size = 0 := size_nil HS.out.text
            have HF := Lib.hid (HS.out.fin rfl)
            go_wp2
            go_meet
            case rel => exact ⟨pb2, b2, rfl, rfl, HF.out.2, HF.out.1, HS.out.small, rfl⟩
          | cons x B =>
            have hz : 1 ≤ pb2.size := by
              rw [← nb_length, HS.out.text, texts_cons, List.length_append]
              have := List.length_pos_iff.mpr (text_ne x)
              omega
            have hb := bx_get pb2 0 hz
            rcases head_text x (HS.out.good x (by simp)) (texts B) with ⟨hx, ht⟩ | ⟨hx, c, l, ht, hc⟩
            · rw [bx_of (HS.out.text.trans ht)] at hb
              have HN := Lib.hid (HS.out.step hx)
              have hsz : (pb2.extract 1 pb2.size).size < pb2.size := by rw [size_tail]; omega
              have HSZ := Lib.hid hsz
              clear ht hsz
              go_wp2
              go_round
              case rel => exact ⟨B, _, true, rfl, rfl, HN.out⟩
              case measure => have := HSZ.out; simp [strOf] at this ⊢; omega
            · rw [bx_of (HS.out.text.trans ht)] at hb
              have HF := Lib.hid (HS.out.fin (noStars_none x B hx))
              have q : ((c : Int) == 42) = false := beq_eq_false_iff_ne.mpr (by omega)
              clear ht
              go_wp2
              go_meet
              case rel => exact ⟨pb2, b2, rfl, rfl, HF.out.2, HF.out.1, HS.out.small, rfl⟩
      case rest =>
        obtain ⟨pb2, b2, rfl, rfl, hb2e, htx, hp2, rfl⟩ := hcut
        clear START
        have HBE := Lib.hid hb2e.symm; clear hb2e
        obtain ⟨ce, hce⟩ : ∃ ce, (chOf (t :: r)).isEmpty = ce := ⟨_, rfl⟩
        have HCE := Lib.hid hce; clear hce
        have HTX := Lib.hid htx; clear htx
        go_upto_block 4 with (fail)
        go_step3
        go_upto_block 4 with (fail)
        go_cut [8] (fun v wx => v = .int .i64 (scanI (nb pb2) false : Nat) ∧ wx = wc)
        case first => as_aux_lemma =>
          go_wp2_with fail
          go_loop [7, 8] (fun f v => ∃ (i : Nat) (inr : Bool), f = .bool inr ∧ v = .int .i64 i ∧ Scan pb2 i inr) (fun _ v => pb2.size - (intOf v).toNat)
          case atStart => exact ⟨0, false, rfl, rfl, Scan.start pb2⟩
          case round =>
            obtain ⟨i, inr, rfl, rfl, hs⟩ := hrel
            have hil := hs.le
            have HS := Lib.hid hs; clear hs
            by_cases hlt : i < pb2.size
            · have hb := bx_get pb2 i hlt
              generalize hcc : bx pb2 i = c at hb
              have HC := Lib.hid hcc; clear hcc
              by_cases h92 : c = 92
              · have HC2 : Hid (bx pb2 i = 92) := Lib.hid (HC.out.trans h92)
                subst h92
                by_cases hl2 : (i : Int) + 1 < pb2.size
                · have HN := Lib.hid (HS.out.esc (by omega) HC2.out)
                  go_wp2
                  go_round
                  case rel => exact ⟨i + 2, inr, rfl, by go_num, HN.out⟩
                  case measure => simp [intOf] <;> omega
                · have HN := Lib.hid (HS.out.esc1 hlt (by omega) HC2.out)
                  go_wp2
                  go_round
                  case rel => exact ⟨i + 1, inr, rfl, by go_num, HN.out⟩
                  case measure => simp [intOf] <;> omega
              · have q92 : ((c : Int) == 92) = false := beq_eq_false_iff_ne.mpr (by omega)
                by_cases h91 : c = 91
                · have q91 : ((c : Int) == 91) = true := beq_iff_eq.mpr (by omega)
                  have HN : Hid (Scan pb2 (i + 1) true) := Lib.hid (HS.out.next hlt (by rw [HC.out]; exact h92) (by rw [HC.out]; simp [h91]) (by rw [HC.out]; intro h; omega))
                  go_wp2
                  go_round
                  case rel => exact ⟨i + 1, true, rfl, by go_num, HN.out⟩
                  case measure => simp [intOf] <;> omega
                · have q91 : ((c : Int) == 91) = false := beq_eq_false_iff_ne.mpr (by omega)
                  by_cases h93 : c = 93
                  · have q93 : ((c : Int) == 93) = true := beq_iff_eq.mpr (by omega)
                    have HN : Hid (Scan pb2 (i + 1) false) := Lib.hid (HS.out.next hlt (by rw [HC.out]; exact h92) (by rw [HC.out]; simp [h93]) (by rw [HC.out]; intro h; omega))
                    go_wp2
                    go_round
                    case rel => exact ⟨i + 1, false, rfl, by go_num, HN.out⟩
                    case measure => simp [intOf] <;> omega
                  · have q93 : ((c : Int) == 93) = false := beq_eq_false_iff_ne.mpr (by omega)
                    by_cases h42 : c = 42
                    · have q42 : ((c : Int) == 42) = true := beq_iff_eq.mpr (by omega)
                      cases inr with
                      | true =>
                        have HN : Hid (Scan pb2 (i + 1) true) := Lib.hid (HS.out.next hlt (by rw [HC.out]; exact h92) (by rw [HC.out]; simp [h91, h93]) (by rw [HC.out]; intro _; rfl))
                        go_wp2
                        go_round
                        case rel => exact ⟨i + 1, true, rfl, by go_num, HN.out⟩
                        case measure => simp [intOf] <;> omega
                      | false =>
                        have HN := Lib.hid (HS.out.stop hlt (HC.out.trans h42))
                        go_wp2
                        go_meet
                        case rel => exact ⟨by rw [HN.out], rfl⟩
                    · have q42 : ((c : Int) == 42) = false := beq_eq_false_iff_ne.mpr (by omega)
                      have HN : Hid (Scan pb2 (i + 1) inr) := Lib.hid (HS.out.next hlt (by rw [HC.out]; exact h92) (by rw [HC.out]; simp [h91, h93]) (by rw [HC.out]; intro h; exact absurd h h42))
                      go_wp2
                      go_round
                      case rel => exact ⟨i + 1, inr, rfl, by go_num, HN.out⟩
                      case measure => simp [intOf] <;> omega
            · have HN := Lib.hid (HS.out.end_ hlt)
              go_wp2
              go_meet
              case rel => exact ⟨by rw [HN.out], rfl⟩
        case rest =>
          obtain ⟨rfl, rfl⟩ := hcut
          obtain ⟨hc1, hc2, hIle⟩ := chunk_parts HTX.out HST.out.good
          generalize scanI (nb pb2) false = I at hc1 hc2 hIle ⊢
          have HCK := Lib.hid hc1; clear hc1
          have HPR := Lib.hid hc2; clear hc2
          have HPS : Hid ((pb2.extract I pb2.size).size ≤ 1000) := Lib.hid (extract_le _ _ _ _ hp2)
          have HCS : Hid ((pb2.extract 0 I).size ≤ 1000) := Lib.hid (extract_le _ _ _ _ hp2)
          go_upto_region 22 with (fail)
          generalize pb2.extract 0 I = ck at HCK HCS ⊢
          generalize pb2.extract I pb2.size = pr at HPR HPS ⊢
          clear hIle hp2 HTX hps
          go_cut [73] (fun v wx => v = .bool (b2 && ce) ∧ wx = wc)
          case first => as_aux_lemma =>
            have q : ck.toList.isEmpty = ce := by
              cases ce with
              | true => exact isEmpty_str _ (size_nil (by rw [HCK.out, List.isEmpty_iff.mp HCE.out]; rfl))
              | false => exact isEmpty_str_not _ (fun e => by have he := HCE.out; rw [List.isEmpty_eq_false_iff] at he; exact he ((texts_nil_iff _).mp (HCK.out ▸ nb_nil e)))
            cases b2 <;> cases ce
            all_goals
              go_wp2
              go_meet
              case rel => exact ⟨rfl, rfl⟩
          case rest =>
            obtain ⟨rfl, rfl⟩ := hcut
            have hbc : (t.isStar && (chOf (t :: r)).isEmpty) = (b2 && ce) := by rw [HBE.out, HCE.out]
            cases hone : (b2 && ce) with
            | true =>
              have HG := Lib.hid (HST.out.one (hbc.trans hone))
              have HNM := Lib.hid HST.out.nm
              clear hone hbc
              go_wp2
              go_loop [10] (fun i => ∃ k : Nat, k ≤ sb.size ∧ i = .int .i64 k) (fun i => sb.size - (intOf i).toNat)
              case atStart => exact ⟨0, Nat.zero_le _, rfl⟩
              case round =>
                obtain ⟨k, hk, rfl⟩ := hrel
                by_cases hlt : k < sb.size
                · have hb := bx_get sb k hlt
                  have h47 := (HNM.out.at k hlt).2
                  generalize bx sb k = c at hb h47
                  have q : ((c : Int) == 47) = false := beq_eq_false_iff_ne.mpr (by omega)
                  go_wp2
                  go_round
                  case rel => exact ⟨k + 1, by omega, by go_num⟩
                  case measure => simp [intOf] <;> omega
                · go_wp2
                  (repeat rw [Exit.noGoto_ret]); go_ret2
                  exact ⟨by rw [HG.out]; rfl, HB.out⟩
            | false =>
              have HONE := Lib.hid (hbc.trans hone); clear hone hbc
              have HNM := Lib.hid HST.out.nm
              go_wp2_with fail
              with_reducible refine (zzChunk_any (chOf (t :: r)) ck sb _ ⟨HCK.out, good_chOf HST.out.good, HNM.out.asc, HCS.out, HNM.out.small, rfl⟩).mono ?_
              rintro e w' hpost
              obtain ⟨rs, ok, rfl, hacc, hb'⟩ := acc_any (restOf (t :: r)).isEmpty hpost
              have HACC := Lib.hid hacc
              have HB2 := Lib.hid (HB.out.trans (hb'.mono HB.out.size))
              have HFIN : Hid ((restOf (t :: r)).isEmpty = (pr.size == 0)) := Lib.hid (by
                cases he : (restOf (t :: r)).isEmpty with
                | true => rw [size_nil (by rw [HPR.out, List.isEmpty_iff.mp he]; rfl)]; rfl
                | false =>
                  symm; rw [beq_eq_false_iff_ne]; intro e
                  rw [List.isEmpty_eq_false_iff] at he
                  exact he ((texts_nil_iff _).mp (HPR.out ▸ nb_nil e)))
              clear hpost hacc hb' HB
              go_upto_region 30 with (fail)
              go_cut [101] (fun v wx => v = .bool (ok && taken (restOf (t :: r)).isEmpty rs) ∧ wx = w')
              case first => as_aux_lemma =>
                cases ok with
                | false =>
                  go_wp2
                  go_meet
                  case rel => exact ⟨rfl, rfl⟩
                | true =>
                  by_cases hr0 : rs.size = 0
                  · have q1 : ((rs.size : Int) == 0) = true := by rw [hr0]; rfl
                    have HT : Hid (taken (restOf (t :: r)).isEmpty rs = true) := Lib.hid (by unfold taken; rw [hr0]; rfl)
                    clear hr0
                    go_wp2
                    go_meet
                    case rel => exact ⟨by rw [HT.out]; rfl, rfl⟩
                  · have q1 : ((rs.size : Int) == 0) = false := beq_eq_false_iff_ne.mpr (by omega)
                    have HT : Hid (taken (restOf (t :: r)).isEmpty rs = !(pr.size == 0)) := Lib.hid (by unfold taken; rw [HFIN.out, show (rs.size == 0) = false from beq_eq_false_iff_ne.mpr hr0]; rfl)
                    clear hr0
                    by_cases hp0 : pr.size = 0
                    · have q2 : ¬ (0 : Int) < pr.size := by omega
                      have HT2 : Hid (taken (restOf (t :: r)).isEmpty rs = false) := Lib.hid (by rw [HT.out, hp0]; rfl)
                      go_wp2
                      go_meet
                      case rel => exact ⟨by rw [HT2.out]; rfl, rfl⟩
                    · have q2 : (0 : Int) < pr.size := by omega
                      have HT2 : Hid (taken (restOf (t :: r)).isEmpty rs = true) := Lib.hid (by rw [HT.out, show (pr.size == 0) = false from beq_eq_false_iff_ne.mpr hp0]; rfl)
                      go_wp2
                      go_meet
                      case rel => exact ⟨by rw [HT2.out]; first | rfl | (rw [decide_eq_true (show 0 < pr.size by omega)]; rfl), rfl⟩
              case rest =>
                obtain ⟨rfl, rfl⟩ := hcut
                cases hA : (ok && taken (restOf (t :: r)).isEmpty rs) with
                | true =>
                  have HN := Lib.hid (HST.out.next HONE.out (firstOk_yes (HACC.out.1 hA).1 (HACC.out.1 hA).2) (HNM.out.chunk (HACC.out.1 hA).1) HPR.out)
                  clear hA
                  go_wp2
                  (first | (simp only [Exit.noGoto_exit, Exit.noGoto_normal]; go_wp2) | skip)
                  go_roundw
                  case rel => exact ⟨_, pr, rs, rfl, rfl, HN.out.1, HB2.out⟩
                  case measure => simp [strOf]; exact HN.out.2
                | false =>
                  have HFO := Lib.hid (firstOk_no (star := t.isStar) (HACC.out.2 hA))
                  clear hA
                  clear HACC
                  go_upto_if 106 with (fail)
                  go_cut [] (fun wx => firstOk t.isStar (chOf (t :: r)) (restOf (t :: r)).isEmpty (nb sb) = none ∧ Below w.heap.size w wx)
                  case first => as_aux_lemma =>
                    cases b2 with
                    | false =>
                      have HFO2 : Hid (firstOk t.isStar (chOf (t :: r)) (restOf (t :: r)).isEmpty (nb sb) = none) := Lib.hid (by rw [HFO.out, HBE.out]; rfl)
                      go_wp2
                      go_meet
                      case rel => exact ⟨HFO2.out, HB2.out⟩
                    | true =>
                      have HFO2 : Hid (firstOk t.isStar (chOf (t :: r)) (restOf (t :: r)).isEmpty (nb sb) = srch (chOf (t :: r)) (restOf (t :: r)).isEmpty (nb sb)) := Lib.hid (by rw [HFO.out, HBE.out]; rfl)
                      go_wp2_with fail
                      go_loopw [1, 14] (fun s k wr => ∃ k' : Nat, s = .string sb ∧ k = .int .i64 k' ∧ k' ≤ sb.size ∧ srch (chOf (t :: r)) (restOf (t :: r)).isEmpty (nb sb) = srch (chOf (t :: r)) (restOf (t :: r)).isEmpty ((nb sb).drop k') ∧ Below w.heap.size w wr) (fun _ k _ => sb.size - (intOf k).toNat)
                      case atStart => exact ⟨0, rfl, rfl, Nat.zero_le _, rfl, HB2.out⟩
                      case round =>
                        obtain ⟨k, rfl, rfl, hk, hsr, hbel⟩ := hrel
                        have HSR := Lib.hid hsr; clear hsr
                        have HB := Lib.hid hbel; clear hbel
                        by_cases hlt : k < sb.size
                        · have hb := bx_get sb k hlt
                          have hdr := drop_bx sb k hlt
                          have h47 := (HNM.out.at k hlt).2
                          generalize bx sb k = c at hb h47 hdr
                          have HDR := Lib.hid hdr; clear hdr
                          have H47 := Lib.hid h47
                          have q : ((c : Int) == 47) = false := beq_eq_false_iff_ne.mpr (by omega)
                          have HNK := Lib.hid (HNM.out.tail (k + 1))
                          go_wp2_with fail
                          with_reducible refine (zzChunk_any (chOf (t :: r)) ck (sb.extract (k + 1) sb.size) _ ⟨HCK.out, good_chOf HST.out.good, HNK.out.asc, HCS.out, HNK.out.small, rfl⟩).mono ?_
                          rintro e w' hpost
                          obtain ⟨rs2, ok2, rfl, hacc, hb'⟩ := acc_any (restOf (t :: r)).isEmpty hpost
                          unfold Acc at hacc
                          rw [nb_tail] at hacc
                          have HACC := Lib.hid hacc
                          have HB3 := Lib.hid (HB.out.trans (hb'.mono HB.out.size))
                          clear hpost hacc hb' HB
                          have HYES : Hid ((ok2 && taken (restOf (t :: r)).isEmpty rs2) = true → MSt G (restOf (t :: r)) pr rs2 ∧ pr.size < pb.size) := Lib.hid fun hA =>
                            HST.out.next HONE.out (HFO2.out.trans (HSR.out.trans (by rw [HDR.out]; exact srch_yes H47.out (HACC.out.1 hA).1 (HACC.out.1 hA).2))) (HNK.out.chunk (by rw [nb_tail]; exact (HACC.out.1 hA).1)) HPR.out
                          have HNO : Hid ((ok2 && taken (restOf (t :: r)).isEmpty rs2) = false → srch (chOf (t :: r)) (restOf (t :: r)).isEmpty (nb sb) = srch (chOf (t :: r)) (restOf (t :: r)).isEmpty ((nb sb).drop (k + 1))) := Lib.hid fun hA =>
                            HSR.out.trans (by rw [HDR.out]; exact srch_no H47.out (HACC.out.2 hA))
                          clear h47 HACC
                          cases ok2 with
                          | false =>
                            have HN := Lib.hid (HNO.out rfl)
                            go_wp2
                            (first | (simp only [Exit.noGoto_exit, Exit.noGoto_normal]; go_wp2) | skip)
                            go_roundw
                            case rel => exact ⟨k + 1, by first | rfl | trivial, by go_num, by omega, HN.out, HB3.out⟩
                            case measure => simp [intOf] <;> omega
                          | true =>
                            by_cases hp0 : pr.size = 0
                            · have q1 : ((pr.size : Int) == 0) = true := by rw [hp0]; rfl
                              by_cases hr0 : rs2.size = 0
                              · have q2 : ¬ (0 : Int) < rs2.size := by omega
                                have HN := Lib.hid (HYES.out (by unfold taken; rw [hr0]; rfl))
                                clear hp0 hr0
                                go_wp2
                                (first | (simp only [Exit.noGoto_exit, Exit.noGoto_normal]; go_wp2) | skip)
                                go_roundw
                                case rel => exact ⟨_, pr, rs2, rfl, rfl, HN.out.1, HB3.out⟩
                                case measure => simp [strOf]; exact HN.out.2
                              · have q2 : (0 : Int) < rs2.size := by omega
                                have HN := Lib.hid (HNO.out (by unfold taken; rw [HFIN.out, hp0, show (rs2.size == 0) = false from beq_eq_false_iff_ne.mpr hr0]; rfl))
                                clear hp0 hr0
                                go_wp2
                                (first | (simp only [Exit.noGoto_exit, Exit.noGoto_normal]; go_wp2) | skip)
                                go_roundw
                                case rel => exact ⟨k + 1, by first | rfl | trivial, by go_num, by omega, HN.out, HB3.out⟩
                                case measure => simp [intOf] <;> omega
                            · have q1 : ((pr.size : Int) == 0) = false := beq_eq_false_iff_ne.mpr (by omega)
                              have HN := Lib.hid (HYES.out (by unfold taken; rw [HFIN.out, show (pr.size == 0) = false from beq_eq_false_iff_ne.mpr hp0, Bool.true_and, Bool.not_false, Bool.or_true]))
                              clear hp0
                              go_wp2
                              (first | (simp only [Exit.noGoto_exit, Exit.noGoto_normal]; go_wp2) | skip)
                              go_roundw
                              case rel => exact ⟨_, pr, rs2, rfl, rfl, HN.out.1, HB3.out⟩
                              case measure => simp [strOf]; exact HN.out.2
                        · have HN := Lib.hid (HFO2.out.trans (HSR.out.trans (by rw [List.drop_eq_nil_of_le (by rw [nb_length]; omega)])))
                          go_wp2
                          go_meet
                          case rel => exact ⟨HN.out, HB.out⟩
                  case rest =>
                    obtain ⟨hnone, hbel⟩ := hcut
                    have HG := Lib.hid (HST.out.none HONE.out hnone)
                    have HB := Lib.hid hbel; clear hnone hbel
                    clear HB2
                    go_wp2_with fail
                    go_loopw [0] (fun p wr => ∃ (B0 : List Tok) (pb3 : ByteArray), p = .string pb3 ∧ nb pb3 = texts B0 ∧ (∀ t ∈ B0, Tok.good t) ∧ pb3.size ≤ 1000 ∧ Below w.heap.size w wr) (fun p _ => (strOf p).size)
                    case atStart => exact ⟨_, pr, rfl, HPR.out, good_restOf HST.out.good, HPS.out, HB.out⟩
                    case round =>
                      obtain ⟨B0, pb3, rfl, ht3, hg3, hs3, hbel⟩ := hrel
                      have HB := Lib.hid hbel; clear hbel
                      have HT3 := Lib.hid ht3; clear ht3
                      have HG3 := Lib.hid hg3; clear hg3
                      cases B0 with
                      | nil =>
                        have hz : pb3.size = 0 := size_nil HT3.out
                        go_wp2
                        (repeat rw [Exit.noGoto_ret]); go_ret2
                        exact ⟨by rw [HG.out]; rfl, HB.out⟩
                      | cons t3 r3 =>
                        have hps3 : 1 ≤ pb3.size := by
                          rw [← nb_length, HT3.out, texts_cons, List.length_append]
                          have := List.length_pos_iff.mpr (text_ne t3)
                          omega
                        have START : Hid (Strip (t3 :: r3) (t3 :: r3) pb3 false) := Lib.hid ⟨HT3.out, rfl, fun h => (by cases h), fun _ => rfl, HG3.out, hs3⟩
                        go_upto_block 13 with (fail)
                        go_step3
                        go_upto_block 13 with (fail)
                        rw [decide_eq_true (show 0 < pb3.size from by omega)]
                        go_cut [0] (fun p wx => ∃ pb2 : ByteArray, p = .string pb2 ∧ nb pb2 = texts (noStars (t3 :: r3)) ∧ pb2.size ≤ 1000 ∧ wx = wr)
                        case first => as_aux_lemma =>
                          go_wp2_with fail
                          go_loop [0] (fun p => ∃ B pb2 b2, p = .string pb2 ∧ Strip (t3 :: r3) B pb2 b2) (fun p => (strOf p).size)
                          case atStart => exact ⟨_, _, false, rfl, START.out⟩
                          case round =>
                            obtain ⟨B, pb2, b2, rfl, hs⟩ := hrel
                            have HS := Lib.hid hs; clear hs
                            cases B with
                            | nil =>
                              have hz : pb2.size = 0 := size_nil HS.out.text
                              have HF := Lib.hid (HS.out.fin rfl)
                              go_wp2
                              go_meet
                              case rel => exact ⟨pb2, rfl, HF.out.1, HS.out.small, rfl⟩
                            | cons x B =>
                              have hz : 1 ≤ pb2.size := by
                                rw [← nb_length, HS.out.text, texts_cons, List.length_append]
                                have := List.length_pos_iff.mpr (text_ne x)
                                omega
                              have hb := bx_get pb2 0 hz
                              rcases head_text x (HS.out.good x (by simp)) (texts B) with ⟨hx, ht⟩ | ⟨hx, c, l, ht, hc⟩
                              · rw [bx_of (HS.out.text.trans ht)] at hb
                                have HN := Lib.hid (HS.out.step hx)
                                have hsz : (pb2.extract 1 pb2.size).size < pb2.size := by rw [size_tail]; omega
                                have HSZ := Lib.hid hsz
                                clear ht hsz
                                go_wp2
                                go_round
                                case rel => exact ⟨B, _, true, rfl, HN.out⟩
                                case measure => have := HSZ.out; simp [strOf] at this ⊢; omega
                              · rw [bx_of (HS.out.text.trans ht)] at hb
                                have HF := Lib.hid (HS.out.fin (noStars_none x B hx))
                                have q : ((c : Int) == 42) = false := beq_eq_false_iff_ne.mpr (by omega)
                                clear ht
                                go_wp2
                                go_meet
                                case rel => exact ⟨pb2, rfl, HF.out.1, HS.out.small, rfl⟩
                        case rest =>
                          obtain ⟨pb2, rfl, htx, hp2, rfl⟩ := hcut
                          clear START
                          have HTX := Lib.hid htx; clear htx
                          go_upto_block 15 with (fail)
                          go_step3
                          go_upto_block 15 with (fail)
                          go_cut [18] (fun v wx => v = .int .i64 (scanI (nb pb2) false : Nat) ∧ wx = wc)
                          case first => as_aux_lemma =>
                            go_wp2_with fail
                            go_loop [19, 18] (fun f v => ∃ (i : Nat) (inr : Bool), f = .bool inr ∧ v = .int .i64 i ∧ Scan pb2 i inr) (fun _ v => pb2.size - (intOf v).toNat)
                            case atStart => exact ⟨0, false, rfl, rfl, Scan.start pb2⟩
                            case round =>
                              obtain ⟨i, inr, rfl, rfl, hs⟩ := hrel
                              have hil := hs.le
                              have HS := Lib.hid hs; clear hs
                              by_cases hlt : i < pb2.size
                              · have hb := bx_get pb2 i hlt
                                generalize hcc : bx pb2 i = c at hb
                                have HC := Lib.hid hcc; clear hcc
                                by_cases h92 : c = 92
                                · have HC2 : Hid (bx pb2 i = 92) := Lib.hid (HC.out.trans h92)
                                  subst h92
                                  by_cases hl2 : (i : Int) + 1 < pb2.size
                                  · have HN := Lib.hid (HS.out.esc (by omega) HC2.out)
                                    go_wp2
                                    go_round
                                    case rel => exact ⟨i + 2, inr, rfl, by go_num, HN.out⟩
                                    case measure => simp [intOf] <;> omega
                                  · have HN := Lib.hid (HS.out.esc1 hlt (by omega) HC2.out)
                                    go_wp2
                                    go_round
                                    case rel => exact ⟨i + 1, inr, rfl, by go_num, HN.out⟩
                                    case measure => simp [intOf] <;> omega
                                · have q92 : ((c : Int) == 92) = false := beq_eq_false_iff_ne.mpr (by omega)
                                  by_cases h91 : c = 91
                                  · have q91 : ((c : Int) == 91) = true := beq_iff_eq.mpr (by omega)
                                    have HN : Hid (Scan pb2 (i + 1) true) := Lib.hid (HS.out.next hlt (by rw [HC.out]; exact h92) (by rw [HC.out]; simp [h91]) (by rw [HC.out]; intro h; omega))
                                    go_wp2
                                    go_round
                                    case rel => exact ⟨i + 1, true, rfl, by go_num, HN.out⟩
                                    case measure => simp [intOf] <;> omega
                                  · have q91 : ((c : Int) == 91) = false := beq_eq_false_iff_ne.mpr (by omega)
                                    by_cases h93 : c = 93
                                    · have q93 : ((c : Int) == 93) = true := beq_iff_eq.mpr (by omega)
                                      have HN : Hid (Scan pb2 (i + 1) false) := Lib.hid (HS.out.next hlt (by rw [HC.out]; exact h92) (by rw [HC.out]; simp [h93]) (by rw [HC.out]; intro h; omega))
                                      go_wp2
                                      go_round
                                      case rel => exact ⟨i + 1, false, rfl, by go_num, HN.out⟩
                                      case measure => simp [intOf] <;> omega
                                    · have q93 : ((c : Int) == 93) = false := beq_eq_false_iff_ne.mpr (by omega)
                                      by_cases h42 : c = 42
                                      · have q42 : ((c : Int) == 42) = true := beq_iff_eq.mpr (by omega)
                                        cases inr with
                                        | true =>
                                          have HN : Hid (Scan pb2 (i + 1) true) := Lib.hid (HS.out.next hlt (by rw [HC.out]; exact h92) (by rw [HC.out]; simp [h91, h93]) (by rw [HC.out]; intro _; rfl))
                                          go_wp2
                                          go_round
                                          case rel => exact ⟨i + 1, true, rfl, by go_num, HN.out⟩
                                          case measure => simp [intOf] <;> omega
                                        | false =>
                                          have HN := Lib.hid (HS.out.stop hlt (HC.out.trans h42))
                                          go_wp2
                                          go_meet
                                          case rel => exact ⟨by rw [HN.out], rfl⟩
                                      · have q42 : ((c : Int) == 42) = false := beq_eq_false_iff_ne.mpr (by omega)
                                        have HN : Hid (Scan pb2 (i + 1) inr) := Lib.hid (HS.out.next hlt (by rw [HC.out]; exact h92) (by rw [HC.out]; simp [h91, h93]) (by rw [HC.out]; intro h; exact absurd h h42))
                                        go_wp2
                                        go_round
                                        case rel => exact ⟨i + 1, inr, rfl, by go_num, HN.out⟩
                                        case measure => simp [intOf] <;> omega
                              · have HN := Lib.hid (HS.out.end_ hlt)
                                go_wp2
                                go_meet
                                case rel => exact ⟨by rw [HN.out], rfl⟩
                          case rest =>
                            obtain ⟨rfl, rfl⟩ := hcut
                            obtain ⟨hc1, hc2, hIle⟩ := chunk_parts HTX.out HG3.out
                            generalize scanI (nb pb2) false = I3 at hc1 hc2 hIle ⊢
                            have HCK3 := Lib.hid hc1; clear hc1
                            have HPR3 := Lib.hid hc2; clear hc2
                            have HPS3 : Hid ((pb2.extract I3 pb2.size).size ≤ 1000) := Lib.hid (extract_le _ _ _ _ hp2)
                            have HCS3 : Hid ((pb2.extract 0 I3).size ≤ 1000) := Lib.hid (extract_le _ _ _ _ hp2)
                            have HLT3 : Hid ((pb2.extract I3 pb2.size).size < pb3.size) := Lib.hid (by have h1 := nb_length (pb2.extract I3 pb2.size); have h2 := nb_length pb3; rw [HPR3.out] at h1; rw [HT3.out] at h2; rw [← h1, ← h2]; exact rest_text t3 r3)
                            go_upto_region 64 with (fail)
                            generalize pb2.extract 0 I3 = ck3 at HCK3 HCS3 ⊢
                            generalize pb2.extract I3 pb2.size = pr3 at HPR3 HPS3 HLT3 ⊢
                            have HNE : Hid (Nm ⟨#[]⟩) := Lib.hid ⟨fun c h => (by cases h), by decide⟩
                            go_wp2_with fail
                            with_reducible refine (zzChunk_any (chOf (t3 :: r3)) ck3 ⟨#[]⟩ _ ⟨HCK3.out, good_chOf HG3.out, HNE.out.asc, HCS3.out, HNE.out.small, rfl⟩).mono ?_
                            rintro e w' hpost
                            obtain ⟨rs3, ok3, rfl, _, hb'⟩ := acc_any true hpost
                            have HB4 := Lib.hid (HB.out.trans (hb'.mono HB.out.size))
                            clear hpost hb'
                            go_wp2
                            (first | (simp only [Exit.noGoto_exit, Exit.noGoto_normal]; go_wp2) | skip)
                            go_roundw
                            case rel => exact ⟨_, pr3, rfl, HPR3.out, good_restOf HG3.out, HPS3.out, HB4.out⟩
                            case measure => simp [strOf]; exact HLT3.out
end Go.Proofs.YteipeagdflcjjaaDoor
