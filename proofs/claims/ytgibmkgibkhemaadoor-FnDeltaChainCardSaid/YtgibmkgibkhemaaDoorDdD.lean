/- diffDelta. -/
import Derived.Test.YtgibmkgibkhemaaDoorDdC
namespace Go.Proofs.YtgibmkgibkhemaaDoor
open Go.Shelf Go.RowKit
set_option linter.unusedSimpArgs false
set_option linter.unusedVariables false

set_option maxRecDepth 100000 in
set_option maxHeartbeats 16000000 in
theorem diffDelta_any (ix sb tb c1 c2 : Nat) (S T : List Nat) (w : World) (hix : w.heap[ix]? = some (.cells ixZero ixT (0, 0))) (hS : BR w sb S) (hT : BR w tb T) (hns : ix ≠ sb) (hnt : ix ≠ tb)
    (hSl : S.length ≤ 1000) (hTl : T.length ≤ 1000) (hS2 : ∀ j, S.getD j 0 < 256) (hT2 : ∀ j, T.getD j 0 < 256) (hT3 : ∀ c ∈ T, c < 256) :
    Calls Tryd.prog 26 #[.pointer (some ⟨ix, 0, none⟩), .slice (some ⟨sb, 0, none⟩) S.length c1, .slice (some ⟨tb, 0, none⟩) T.length c2] w (DdPost ix S T w) := by
  have HS := Lib.hid hS; have HT := Lib.hid hT; have HIX := Lib.hid hix; have HT3 := Lib.hid hT3
  have HNE : Hid (ix ≠ sb ∧ ix ≠ tb) := Lib.hid ⟨hns, hnt⟩
  have hixl : ix < w.heap.size := Lib.lt_of_heap hix
  have HE1 := Lib.hid (fun w => encSize_any S.length w hSl)
  have HE2 := Lib.hid (fun w => encSize_any T.length w hTl)
  have HIN := Lib.hid (fun (w : World) h1 h2 h3 => init_any ix sb c1 S w h1 hSl hS2 h2 h3)
  have HFM := Lib.hid (fun (w : World) (i : Nat) h1 h2 h3 h4 => findMatch_any ix sb tb c1 c2 S T i w h1 h2 hSl hTl hT2 h3 h4)
  obtain ⟨N, hN⟩ : ∃ N, N = S.length := ⟨_, rfl⟩
  obtain ⟨M, hM⟩ : ∃ M, M = T.length := ⟨_, rfl⟩
  have HN := Lib.hid hN; have HM := Lib.hid hM
  rw [← hN] at HE1 HIN HFM hSl ⊢
  rw [← hM] at HE2 HFM hTl ⊢
  have HLE : Hid ((lebE N).length ≤ 2 ∧ 1 ≤ (lebE N).length ∧ (lebE M).length ≤ 2 ∧ 1 ≤ (lebE M).length) := Lib.hid ⟨lebE_len N, lebE_pos N, lebE_len M, lebE_pos M⟩
  clear hN hM hS hT hix hns hnt hS2 hT2 hT3
  go_enter Tryd.func26, Tryd.ntmps26
  go_wp2_with fail
  have S1 : Hid (St0 w (w.alloc (.cells #[.slice none 0 0, .int .i64 0, .int .i8 0] bufT)) w.heap.size none []) := Lib.hid ⟨BufS.fresh w, (Below.refl _ _).alloc (Nat.le_refl _) _, Nat.le_refl _, fun g hg => by cases hg⟩
  obtain ⟨b1, hb1⟩ : ∃ b1, b1 = w.heap.size := ⟨_, rfl⟩
  rw [← hb1] at S1 ⊢
  have HBS := Lib.hid hb1
  clear hb1
  generalize hw : w.alloc _ = w1
  have hw' : w.alloc (.cells #[.slice none 0 0, .int .i64 0, .int .i8 0] bufT) = w1 := hw
  rw [hw'] at S1
  clear hw hw'
  with_reducible refine (HE1.out w1).mono ?_
  rintro e w2 ⟨v, rfl, hown, hbel⟩
  have S2 := Lib.hid (S1.out.stay hbel)
  have HW := Lib.hid (write_own w1.heap.size b1 none [] (lebE N) v w2 S2.out.buf hown HLE.out.2.1 (fun _ => by have := HLE.out.1; omega) S1.out.lt.1 (fun g hg => by cases hg) (by have := HLE.out.1; simp; omega))
  clear hown hbel S1
  go_wp2_with fail
  with_reducible refine HW.out.mono ?_
  rintro e w3 ⟨rfl, r, hb, hk, hr⟩
  have S3 := Lib.hid (S2.out.wrote hb hk hr)
  clear hb hk hr S2 HW
  go_wp2_with fail
  with_reducible refine (HE2.out w3).mono ?_
  rintro e w4 ⟨v2, rfl, hown, hbel⟩
  have S4 := Lib.hid (S3.out.stay hbel)
  have HW := Lib.hid (write_own w3.heap.size b1 (some r) ([] ++ lebE N) (lebE M) v2 w4 S4.out.buf hown HLE.out.2.2.2 (fun e => by cases e) S3.out.lt.1 (fun g hg => S3.out.lt.2 g hg) (by have := HLE.out; simp; omega))
  clear hown hbel S3
  go_wp2_with fail
  with_reducible refine HW.out.mono ?_
  rintro e w5 ⟨rfl, r5, hb, hk, hr⟩
  have S5 := Lib.hid (S4.out.wrote hb hk hr)
  clear hb hk hr S4 HW
  have hixr : w5.heap[ix]? = some (.cells ixZero ixT (0, 0)) := (S5.out.bel.block ix hixl).trans HIX.out
  have HIN5 := Lib.hid (HIN.out w5 hixr (Nat.lt_of_lt_of_le HS.out.1 S5.out.bel.size) (HS.out.keep (Kp.of_below S5.out.bel (fun _ => False)) id))
  have e1 : w5.cell? ⟨ix, 1, none⟩ = some (.slice none 0 0) := by rw [Lib.cell_of_heap hixr]; rfl
  clear hixr
  go_wp2_with fail
  with_reducible refine HIN5.out.mono ?_
  rintro e w6 ⟨rfl, hk, hin⟩
  have HK6 := Lib.hid hk; have HI6 := Lib.hid hin
  clear hk hin HIN5 e1
  have HST : Hid (DfSt w (w6.alloc (.cells #[.slice none 0 0, .int .i64 0, .int .i8 0] bufT)) ix sb tb b1 w6.heap.size (some r5) none S T ([] ++ lebE N ++ lebE M) [] [] 0) := Lib.hid (DfSt.start S5.out HK6.out hixl HS.out HT.out HNE.out.1 HNE.out.2 HT3.out HI6.out)
  go_upto_region 7 with (fail)
  obtain ⟨b2, hb2⟩ : ∃ b2, b2 = w6.heap.size := ⟨_, rfl⟩
  rw [← hb2] at HST ⊢
  clear hb2
  generalize hw : w6.alloc _ = w7
  have hw' : w6.alloc (.cells #[.slice none 0 0, .int .i64 0, .int .i8 0] bufT) = w7 := hw
  rw [hw'] at HST
  clear hw hw'
  obtain ⟨H, hH⟩ : ∃ H, H = [] ++ lebE N ++ lebE M := ⟨_, rfl⟩
  rw [← hH] at HST
  have HHH : Hid (H = lebE S.length ++ lebE T.length ∧ H.length ≤ 4) := Lib.hid ⟨by rw [← HN.out, ← HM.out, hH]; rfl, by have := HLE.out; rw [hH]; simp; omega⟩
  clear hH HE1 HE2 HIN HK6 HI6 S5 HIX
  go_wp2_with fail
  go_loopw [9] (fun iv wr => DdRel w ix sb tb b1 b2 S T H iv wr) (fun iv _ => M + 1 - (intOf iv).toNat)
  case atStart => exact ⟨0, some r5, none, [], [], rfl, by omega, HST.out⟩
  case round =>
    clear HST
    obtain ⟨i, r1, r2, ops, I, rfl, hi, hst⟩ := hrel
    have HST := Lib.hid hst
    rw [← HM.out] at hi
    have hl1 := hst.ilen
    rw [← HM.out] at hl1
    have hel := encs_len S rfl hst.ok
    have HX : Hid ((H ++ encs ops).length ≤ 3000 ∧ I.length ≤ 1000) := Lib.hid ⟨by have := HHH.out.2; rw [List.length_append]; omega, by omega⟩
    clear hst hl1 hel
    by_cases hlt : i < M
    · have hli : (i : Int) < M := by omega
      have HF := Lib.hid (HFM.out wr i HST.out.src HST.out.tgt hlt (by have := HST.out.idx.plain; rwa [← HN.out] at this))
      go_wp2_with fail
      with_reducible refine HF.out.mono ?_
      rintro e w8 ⟨o, l, rfl, hfound, hbel⟩
      have HS8 := Lib.hid (HST.out.stay hbel)
      clear HF HST hbel
      rcases hfound with rfl | rfl | ⟨k, rfl, hk1, hk2, hk3⟩ | ⟨p, k, rfl, rfl, hk16, hk1, hk2, heq⟩
      · have ct : w8.cell? ⟨tb, i, none⟩ = some (.int .u8 (T.getD i 0 : Nat)) := HS8.out.tgt.2 i (by rw [← HM.out]; exact hlt)
        obtain ⟨t, ht⟩ : ∃ t, t = T.getD i 0 := ⟨_, rfl⟩
        have HTT := Lib.hid ht
        rw [← ht] at ct
        clear ht
        have HWB := Lib.hid (writeByteN_s b2 r2 I t w8 HS8.out.bufs.ibuf (by have := HX.out.2; omega))
        go_wp2_with fail
        with_reducible refine HWB.out.mono ?_
        rintro e w9 ⟨rfl, r, hb, hk, hr⟩
        have HS9 : Hid (DfSt w w9 ix sb tb b1 b2 r1 (some r) S T H ops (I ++ [t]) (i + 1)) := Lib.hid (by
          rw [HTT.out] at hb ⊢
          exact HS8.out.ins (by rw [← HM.out]; exact hlt) hb hk hr)
        clear hb hk hr HWB ct
        go_wp2
        go_roundw
        case rel => exact ⟨i + 1, r1, some r, ops, _, by go_num, by rw [← HM.out]; omega, HS9.out⟩
        case measure => simp [intOf] <;> omega
      · go_wp2
        go_loopw [9] (fun iv wr => DdIn w ix sb tb b1 b2 r1 S T H ops iv wr) (fun iv _ => M - (intOf iv).toNat)
        case atStart => exact ⟨i, r2, I, rfl, by rw [← HM.out]; omega, HS8.out⟩
        case round =>
          clear HS8
          obtain ⟨j, q2, J, rfl, hj, hst⟩ := hrel
          have HST := Lib.hid hst
          rw [← HM.out] at hj
          have hl1 := hst.ilen
          rw [← HM.out] at hl1
          clear hst
          by_cases hlt2 : j < M
          · have hli2 : (j : Int) < M := by omega
            have ct : wr.cell? ⟨tb, j, none⟩ = some (.int .u8 (T.getD j 0 : Nat)) := HST.out.tgt.2 j (by rw [← HM.out]; exact hlt2)
            obtain ⟨t, ht⟩ : ∃ t, t = T.getD j 0 := ⟨_, rfl⟩
            have HTT := Lib.hid ht
            rw [← ht] at ct
            clear ht
            have HWB := Lib.hid (writeByteN_s b2 q2 J t wr HST.out.bufs.ibuf (by omega))
            clear hl1
            go_wp2_with fail
            with_reducible refine HWB.out.mono ?_
            rintro e w9 ⟨rfl, r, hb, hk, hr⟩
            have HS9 : Hid (DfSt w w9 ix sb tb b1 b2 r1 (some r) S T H ops (J ++ [t]) (j + 1)) := Lib.hid (by
              rw [HTT.out] at hb ⊢
              exact HST.out.ins (by rw [← HM.out]; exact hlt2) hb hk hr)
            clear hb hk hr HWB ct
            go_wp2
            go_roundw
            case rel => exact ⟨j + 1, some r, _, by go_num, by rw [← HM.out]; omega, HS9.out⟩
            case measure => simp [intOf] <;> omega
          · have hli2 : ¬ (j : Int) < M := by omega
            clear hl1
            go_wp2
            go_roundw
            case rel => exact ⟨j + 1, r1, q2, ops, J, by go_num, by rw [← HM.out]; omega, HST.out.past (by rw [← HM.out]; omega) _ (by rw [← HM.out]; omega)⟩
            case measure => simp [intOf] <;> omega
      · rw [← HM.out] at hk3
        have hz : ((k : Int) == 0) = false := beq_eq_false_iff_ne.mpr (by omega)
        have hn : ¬ (k : Int) < 0 := by omega
        have hk16 : (k : Int) < 16 := by omega
        go_wp2
        go_loopw [12] (fun jv wr => DdPc w ix sb tb b1 b2 r1 S T H ops i k jv wr) (fun jv _ => i + k - (intOf jv).toNat)
        case atStart => exact ⟨0, r2, I, rfl, Nat.zero_le _, HS8.out⟩
        case round =>
          clear HS8
          obtain ⟨d, q2, J, rfl, hd, hst⟩ := hrel
          obtain ⟨j, hj⟩ : ∃ j, j = i + d := ⟨_, rfl⟩
          rw [← hj] at hst ⊢
          have HJ := Lib.hid hj
          have HST := Lib.hid hst
          have hl1 := hst.ilen
          rw [← HM.out] at hl1
          have hj1 : j ≤ i + k := by omega
          clear hst hj
          by_cases hlt2 : j < i + k
          · have hli2 : (j : Int) < (i : Int) + k := by omega
            have hjM : j < M := by omega
            have hjMi : (j : Int) < M := by omega
            have ct : wr.cell? ⟨tb, j, none⟩ = some (.int .u8 (T.getD j 0 : Nat)) := HST.out.tgt.2 j (by rw [← HM.out]; exact hjM)
            obtain ⟨t, ht⟩ : ∃ t, t = T.getD j 0 := ⟨_, rfl⟩
            have HTT := Lib.hid ht
            rw [← ht] at ct
            clear ht
            have HWB := Lib.hid (writeByteN_s b2 q2 J t wr HST.out.bufs.ibuf (by omega))
            clear hl1
            go_wp2_with fail
            with_reducible refine HWB.out.mono ?_
            rintro e w9 ⟨rfl, r, hb, hk, hr⟩
            have HS9 : Hid (DfSt w w9 ix sb tb b1 b2 r1 (some r) S T H ops (J ++ [t]) (i + (d + 1))) := Lib.hid (by
              have h2 := HST.out.ins (by rw [← HM.out]; exact hjM) (by rw [← HTT.out]; exact hb) hk hr
              rw [← HTT.out] at h2
              rwa [show i + (d + 1) = j + 1 by rw [HJ.out]; omega])
            clear hb hk hr HWB ct
            go_wp2
            go_roundw
            case rel => exact ⟨d + 1, some r, _, by congr 1; have := HJ.out; omega, by have := HJ.out; omega, HS9.out⟩
            case measure => simp [intOf] <;> omega
          · have hli2 : ¬ (j : Int) < (i : Int) + k := by omega
            obtain rfl : j = i + k := by omega
            clear hl1
            go_wp2
            go_roundw
            case rel => exact ⟨i + k, r1, q2, ops, J, by congr 1; omega, by rw [← HM.out]; omega, HST.out⟩
            case measure => simp [intOf] <;> omega
      · rw [← HN.out] at hk1
        rw [← HM.out] at hk2
        have HEQ := Lib.hid heq
        clear heq
        have hz : ((k : Int) == 0) = false := beq_eq_false_iff_ne.mpr (by omega)
        have hn : ¬ (k : Int) < 0 := by omega
        have hk6 : ¬ (k : Int) < 16 := by omega
        have HK : Hid (p + k ≤ N ∧ i + k ≤ M ∧ 16 ≤ k) := Lib.hid ⟨hk1, hk2, hk16⟩
        clear hk1 hk2 hk16
        have HEN := Lib.hid (encInsert_any b1 r1 (H ++ encs ops) b2 r2 I w8 HS8.out.bufs HS8.out.row (by have := HX.out.1; omega) (by have := HX.out.2; omega))
        go_wp2_with fail
        with_reducible refine HEN.out.mono ?_
        rintro e w9 ⟨rfl, ops2, r, hins, htb, hkp, hnr⟩
        have HS9 := Lib.hid (HS8.out.flush hins htb hkp hnr)
        clear hins htb hkp hnr HEN HS8
        go_wp2
        go_loopw [13, 14] (fun rv av wr => rv = .int .i64 (k : Nat) ∧ av = .int .i64 (p : Nat) ∧ wr = w9) (fun rv _ _ => (intOf rv).toNat)
        case atStart => exact ⟨rfl, rfl, rfl⟩
        case round =>
          obtain ⟨rfl, rfl, rfl⟩ := hrel
          obtain ⟨hk1, hk2, hk16⟩ := HK.out
          have hk0 : (0 : Int) < k := by omega
          have hk65 : (k : Int) < 65536 := by omega
          have HCY := Lib.hid (encCopy_any p k wr (by omega) (by omega) (by omega))
          clear hk1 hk2 hk16
          clear hz hn hk6 hli hlt
          generalize (65536 : Int) = q at hk65 ⊢
          go_wp2_with fail
          with_reducible refine HCY.out.mono ?_
          rintro e w10 ⟨v, rfl, hown, hbel⟩
          have HS10 := Lib.hid (HS9.out.stay hbel)
          obtain ⟨hk1, hk2, hk16⟩ := HK.out
          have hcl := cpyEnc_len p k
          have hel := encs_len S rfl HS10.out.ok
          have hil := HS10.out.ilen
          rw [← HM.out] at hil
          have hh := HHH.out.2
          have y1 := bit1_le (p % 256); have y2 := bit1_le (p / 256); have y3 := bit1_le (k % 256); have y4 := bit1_le (k / 256)
          have HW := Lib.hid (write_own wr.heap.size b1 r (H ++ encs (ops ++ ops2)) (cpyEnc p k) v w10 HS10.out.bufs.buf hown (by omega) (fun e => absurd e HS10.out.row) HS9.out.bufs.buf.lt (fun g hg => by have := HS9.out.bufs.buf; rw [hg] at this; exact this.ltr) (by rw [List.length_append]; omega))
          clear hown hbel hcl hel hil hh HCY hk1 hk2 hk16 y1 y2 y3 y4
          go_wp2_with fail
          with_reducible refine HW.out.mono ?_
          rintro e w11 ⟨rfl, r', hb, hk, hr⟩
          have HS11 := Lib.hid (HS10.out.copy (by rw [← HN.out]; omega) (by rw [← HN.out]; exact HK.out.1) HK.out.2.2 (by rw [← HM.out]; exact HK.out.2.1) HEQ.out hb hk hr)
          clear hb hk hr HW
          obtain ⟨hk1, hk2, hk16⟩ := HK.out
          go_wp2
          go_roundw
          case rel => exact ⟨i + k, some r', r2, _, [], by congr 1; omega, by have := HK.out.2.1; rw [← HM.out]; omega, HS11.out⟩
          case measure => simp [intOf] <;> omega
    · have hli : ¬ (i : Int) < M := by omega
      have HEN := Lib.hid (encInsert_any b1 r1 (H ++ encs ops) b2 r2 I wr HST.out.bufs HST.out.row (by have := HX.out.1; omega) (by have := HX.out.2; omega))
      go_wp2_with fail
      with_reducible refine HEN.out.mono ?_
      rintro e w9 ⟨rfl, ops2, r, hins, htb, hkp, hnr⟩
      have HS9 := Lib.hid (HST.out.flush hins htb hkp hnr)
      clear hins htb hkp hnr HEN HST
      obtain ⟨g, rfl⟩ : ∃ g, r = some g := by
        have := HS9.out.row
        cases r with
        | none => exact absurd rfl this
        | some g => exact ⟨g, rfl⟩
      obtain ⟨L, hL⟩ : ∃ L, L = H ++ encs (ops ++ ops2) := ⟨_, rfl⟩
      have hbuf := HS9.out.bufs.buf
      rw [← hL] at hbuf
      have hLl : 1 ≤ L.length ∧ L.length ≤ 3010 := by
        have hel := encs_len S rfl HS9.out.ok
        have hil := HS9.out.ilen
        rw [← HM.out] at hil
        have hh := HHH.out
        have h1 := HLE.out
        rw [hL, List.length_append]
        have h2 : H.length = (lebE N).length + (lebE M).length := by rw [hh.1, HN.out, HM.out, List.length_append]
        omega
      obtain ⟨A, cap, c0, cc1, hm, hA⟩ := hbuf.head
      obtain ⟨rfl, hlc, hcm⟩ := hA g rfl
      have HL := Lib.hid hL; have HBUF := Lib.hid hbuf
      obtain ⟨l, hl⟩ : ∃ l, l = L.length := ⟨_, rfl⟩
      rw [← hl] at c0 hm hlc hLl
      have HBY := Lib.hid (fun (W : World) (h0 : W.cell? ⟨b1, 0, none⟩ = some (.slice (some ⟨g, 0, none⟩) l cap)) (h1 : W.cell? ⟨b1, 1, none⟩ = some (.int .i64 0)) => bytes_s b1 l cap g W h0 h1 hlc hcm hLl.1)
      have HLL := Lib.hid hl
      clear hl hL hbuf hA hm
      unfold maxLen at hcm
      obtain ⟨i0, hi0, hz0, hz1, hz2⟩ := info_parts u8Inf2
      have hz9 : w.heap.size ≤ w9.heap.size := HS9.out.kept.size
      have hg9 : g < w9.heap.size := HBUF.out.ltr
      have hc9 : Hid (∀ k, (w9.alloc (.cells #[] 5)).cell? ⟨b1, k, none⟩ = w9.cell? ⟨b1, k, none⟩ ∧ (w9.alloc (.cells #[] 5)).cell? ⟨g, k, none⟩ = w9.cell? ⟨g, k, none⟩) :=
        Lib.hid fun k => ⟨(Below.cell (B := w9.heap.size) ((Below.refl _ _).alloc (Nat.le_refl _) _) HBUF.out.lt), (Below.cell (B := w9.heap.size) ((Below.refl _ _).alloc (Nat.le_refl _) _) hg9)⟩
      have HBYA := Lib.hid (HBY.out (w9.alloc (.cells #[] 5)) ((hc9.out 0).1.trans c0) ((hc9.out 1).1.trans cc1))
      clear HBY c0 cc1 hli
      go_wp2_with fail
      with_reducible refine HBYA.out.mono ?_
      rintro e w10 ⟨rfl, k, hw10⟩
      have KX : Hid (Kp (fun k => k = ix) w w10) := Lib.hid (by rw [hw10]; exact (HS9.out.kept.alloc _).drewN k)
      have hown1 : Hid (w10.ownsRow w.heap.size 5 1 (.slice (some ⟨w9.heap.size, 0, none⟩) 0 0) 0 []) := Lib.hid (by
        rw [hw10]
        exact ⟨rfl, .inr ⟨w9.heap.size, 0, #[], rfl, hz9, heap_new _ _, Nat.le_refl _, by decide, rfl, rfl⟩⟩)
      have hnews : Hid (∀ j u, (u8s L)[j]? = some u → w10.cell? ((⟨g, 0, none⟩ : Addr).add j) = some u) := Lib.hid (fun j u hj => by
        have hjl : j < L.length := by have := (List.getElem?_eq_some_iff.mp hj).1; rwa [u8s_len] at this
        have hadd : (⟨g, 0, none⟩ : Addr).add j = ⟨g, 0 + j, none⟩ := by unfold Addr.add; split <;> simp_all
        rw [u8s_at L j hjl] at hj
        rw [hadd, Nat.zero_add, ← hj, hw10]
        exact (hc9.out j).2.trans (HBUF.out.at j hjl))
      have hz10 : w9.heap.size + 1 = w10.heap.size := by rw [hw10]; exact (heap_new_size w9 _).symm
      clear hw10
      go_wp2_with (at_builtin; refine wpList_append_lies _ rfl (.tmp 121) (.tmp 123) 38 rfl w.heap.size 5 i0 (.int .u8 0) 1 1 bytesKind hi0 hz0 hz1 hz2 rfl (by decide) _ _ _ rfl hown1.out ⟨g, 0, none⟩ l cap (u8s L) rfl (by rw [u8s_len, Nat.mul_one]; exact HLL.out.symm) hnews.out (u8s_one L) hLl.1 ?c3 ?c4 ?c5 _ rfl ?_)
      case c3 => unfold maxLen; omega
      case c4 => omega
      case c5 => omega
      intro gg cap3 w4 hown4 hgrow _ _
      have R : Hid (OwnB w4 w.heap.size (.slice (some ⟨gg, 0, none⟩) l cap3) L) := Lib.hid (by
        unfold OwnB
        rw [← HLL.out]
        exact hown4)
      have hb10 : Below w9.heap.size w10 w4 := (Below.refl _ _).grown hgrow (by omega) (fun q e => by
        have e2 : some w9.heap.size = some q := e
        cases e2; exact Nat.le_refl _)
      have KZ := Lib.hid (KX.out.trans (Y := fun k => w9.heap.size ≤ k) ⟨hb10.os, hb10.tape, hb10.output, hb10.size, fun q _ hq => hb10.block q (by omega)⟩ (fun q hq hy => by omega))
      clear hown4 hgrow hb10
      go_wp2
      go_ret
      have ho := HS9.out.out
      rw [List.append_nil, List.take_of_length_le (by rw [← HM.out]; omega)] at ho
      exact ⟨_, ops ++ ops2, rfl, by rw [← HHH.out.1, ← HL.out]; exact R.out, HS9.out.ok, ho, HS9.out.bytes, KZ.out⟩
end Go.Proofs.YtgibmkgibkhemaaDoor
