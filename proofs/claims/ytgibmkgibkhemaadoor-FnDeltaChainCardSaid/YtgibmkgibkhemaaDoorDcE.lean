/- patchDelta of whatever operations: the walk. -/
import Derived.Test.YtgibmkgibkhemaaDoorDcD
namespace Go.Proofs.YtgibmkgibkhemaaDoor
open Go.RowKit
set_option linter.unusedSimpArgs false
set_option linter.unusedVariables false

def PdSt (B b db h : Nat) (S : List Nat) (ops : List DOp) (w : World) (d m : Value) (wr : World) : Prop :=
  Below B w wr ∧ B ≤ wr.heap.size ∧ ∃ dn rs, ops = dn ++ rs ∧ Sl db (h + (encs dn).length) (encs rs).length d ∧ m = .int .u64 ((outs S rs).length : Nat) ∧ IsBuf B b (u8s (outs S dn)) wr

set_option maxRecDepth 100000 in
set_option maxHeartbeats 8000000 in
theorem patchDelta_any (B b sb db c1 nD : Nat) (d0 : Value) (S : List Nat) (ops : List DOp) (w : World) (h : IsBuf B b [] w) (hnr : Lib.NoRoom b (outs S ops).length w) (hBw : B ≤ w.heap.size) (hsb : sb < B) (hdb : db < B)
    (hS : S.length ≤ 1000) (hc1 : S.length ≤ c1) (hc1m : c1 ≤ 9223372036854775807) (hT1 : 1 ≤ (outs S ops).length) (hT : (outs S ops).length ≤ 1000) (hok : ∀ a ∈ ops, opOk S.length a) (hlt : ∀ c ∈ encs ops, c < 256)
    (hd0 : Sl db 0 (lebE S.length ++ (lebE (outs S ops).length ++ encs ops)).length d0)
    (hs : ∀ i, i < S.length → w.cell? ⟨sb, i, none⟩ = some (.int .u8 (S.getD i 0 : Nat)))
    (hd : ∀ i, i < (lebE S.length ++ (lebE (outs S ops).length ++ encs ops)).length → w.cell? ⟨db, i, none⟩ = some (.int .u8 ((lebE S.length ++ (lebE (outs S ops).length ++ encs ops)).getD i 0 : Nat))) :
    Calls Tryd.prog 24 #[.pointer (some ⟨b, 0, none⟩), .slice (some ⟨sb, 0, none⟩) S.length c1, d0] w fun e w' => e = .returned .nilIface ∧ IsBuf B b (u8s (outs S ops)) w' ∧ Below B w w' := by
  obtain ⟨N, hN⟩ : ∃ N, N = S.length := ⟨_, rfl⟩
  obtain ⟨T, hTT⟩ : ∃ T, T = (outs S ops).length := ⟨_, rfl⟩
  have hel := encs_len S rfl hok
  rw [← hTT] at hnr hT1 hT hd0 hd hel
  rw [← hN] at hS hc1 hok hd0 hs hd ⊢
  have hl1 := lebE_len N; have hl2 := lebE_len T
  have hDl : (lebE N ++ (lebE T ++ encs ops)).length ≤ 100000 := by rw [List.length_append, List.length_append]; omega
  have HS := Lib.hid hs; have HD := Lib.hid hd; have HI := Lib.hid h; have HNR := Lib.hid hnr; have HOK := Lib.hid hok
  have HD1 := Lib.hid (fun w (hc : ∀ i, i < (lebE N ++ (lebE T ++ encs ops)).length → w.cell? ⟨db, 0 + i, none⟩ = some (.int .u8 ((lebE N ++ (lebE T ++ encs ops)).getD i 0 : Nat))) => dec_any db 0 N (lebE T ++ encs ops) d0 w (by omega) hd0 hDl (by
    intro c hc
    rcases List.mem_append.mp hc with hc | hc
    · exact lebE_lt (by omega) c hc
    · exact hlt c hc) hc)
  have HD2 := Lib.hid (fun v w (hv : Sl db (0 + (lebE N).length) (lebE T ++ encs ops).length v) (hc : ∀ i, i < (lebE T ++ encs ops).length → w.cell? ⟨db, (0 + (lebE N).length) + i, none⟩ = some (.int .u8 ((lebE T ++ encs ops).getD i 0 : Nat))) => dec_any db (0 + (lebE N).length) T (encs ops) v w (by omega) hv (by rw [List.length_append]; omega) hlt hc)
  have HTT := Lib.hid hTT; have HN := Lib.hid hN
  have HDL := Lib.hid (show (lebE N ++ (lebE T ++ encs ops)).length = (lebE N).length + ((lebE T).length + (encs ops).length) by rw [List.length_append, List.length_append])
  have HLT := Lib.hid hlt
  clear hs hd h hnr hd0 hok hlt hTT hN hDl hel
  go_enter Tryd.func24, Tryd.ntmps24
  go_wp2_with fail
  with_reducible refine (HD1.out w (fun i hi => by rw [Nat.zero_add]; exact HD.out i hi)).mono ?_
  rintro e w1 ⟨v1, rfl, hv1, hb1⟩
  have HB1 := Lib.hid hb1; have HV1 := Lib.hid hv1
  clear hb1 hv1
  go_wp2_with fail
  with_reducible refine (HD2.out v1 w1 HV1.out (fun i hi => by
    rw [HB1.out.cell (p := ⟨db, 0 + (lebE N).length + i, none⟩) (by show db < _; omega)]
    have := HD.out ((lebE N).length + i) (by rw [HDL.out]; rw [List.length_append] at hi; omega)
    rw [Nat.zero_add, this, getD_off])).mono ?_
  rintro e w2 ⟨v2, rfl, hv2, hb2⟩
  have HB2 : Hid (Below w.heap.size w w2) := Lib.hid (HB1.out.trans (hb2.mono HB1.out.size))
  have HV2 := Lib.hid hv2
  clear hb2 hv2 HB1 HV1 HD1 HD2
  have hI2 : Hid (IsBuf B b [] w2) := Lib.hid (Lib.IsBuffer.old HI.out HB2.out)
  have hNR2 : Hid (Lib.NoRoom b T w2) := Lib.hid (by
    obtain ⟨ao, l, cap, hcl, hlt⟩ := HNR.out
    exact ⟨ao, l, cap, (HB2.out.cell (p := ⟨b, 0, none⟩) HI.out.lt).trans hcl, hlt⟩)
  have hBw2 : B ≤ w2.heap.size := Nat.le_trans hBw HB2.out.size
  have hmin := min_small T (by omega)
  have HG := Lib.hid (buf_Grow B b T w2 hI2.out hNR2.out hBw2 hT1 (by omega))
  go_wp2_with fail
  with_reducible refine HG.out.mono ?_
  rintro e w3 ⟨rfl, hI3, hb3⟩
  clear hmin hI2 hNR2 HG
  have HI3 := Lib.hid hI3; clear hI3
  have HB3 : Hid (Below B w w3) := Lib.hid ((HB2.out.mono hBw).trans hb3)
  have hBw3 : B ≤ w3.heap.size := Nat.le_trans hBw2 hb3.size
  clear hb3 HB2
  have HV3 : Hid (Sl db ((lebE N).length + (lebE T).length) (encs ops).length v2) := Lib.hid (by have := HV2.out; rwa [Nat.zero_add] at this)
  obtain ⟨hh, hhh⟩ : ∃ hh, hh = (lebE N).length + (lebE T).length := ⟨_, rfl⟩
  rw [← hhh] at HV3
  have HCELL : Hid (∀ i, i < (encs ops).length → w.cell? ⟨db, hh + i, none⟩ = some (.int .u8 ((encs ops).getD i 0 : Nat))) := Lib.hid (fun i hi => by
    have := HD.out (hh + i) (by rw [HDL.out]; omega)
    rw [this, hhh, show (lebE N).length + (lebE T).length + i = (lebE N).length + ((lebE T).length + i) by omega, getD_off, getD_off])
  have HS2 := HS
  clear HV2 HD HDL hhh hl1 hl2
  go_wp2
  go_loopw [2, 10] (fun d m wr => PdSt B b db hh S ops w d m wr) (fun _ m _ => awMeasure m)
  case atStart => exact ⟨HB3.out, hBw3, [], ops, rfl, by simpa [encs] using HV3.out, by rw [← HTT.out], HI3.out⟩
  case round =>
    clear HB3 HI3 hBw3 hBw2 HV3
    obtain ⟨hbel, hBr, dn, rs, hops, hsl, rfl, hI⟩ := hrel
    have HB := Lib.hid hbel; have HSL := Lib.hid hsl; have HIb := Lib.hid hI; have HOPS := Lib.hid hops
    clear hbel hsl hI hops
    have hlen : Hid ((outs S dn).length + (outs S rs).length = T) := Lib.hid (by rw [HTT.out, HOPS.out, outs_append, List.length_append])
    have hcells : Hid (∀ i, i < (encs rs).length → wr.cell? ⟨db, (hh + (encs dn).length) + i, none⟩ = some (.int .u8 ((encs rs).getD i 0 : Nat))) := Lib.hid (fun i hi => by
      rw [HB.out.cell (p := ⟨db, (hh + (encs dn).length) + i, none⟩) hdb]
      have := HCELL.out ((encs dn).length + i) (by rw [HOPS.out, encs_append, List.length_append]; omega)
      rw [Nat.add_assoc, this, HOPS.out, encs_append, getD_off])
    have hsrc : Hid (∀ i, i < N → wr.cell? ⟨sb, i, none⟩ = some (.int .u8 (S.getD i 0 : Nat))) := Lib.hid (fun i hi => by
      rw [HB.out.cell (p := ⟨sb, i, none⟩) hsb]
      exact HS.out i hi)
    have hokr : Hid (∀ a ∈ rs, opOk N a) := Lib.hid (fun a ha => HOK.out a (by rw [HOPS.out]; exact List.mem_append_right _ ha))
    obtain ⟨q, hq⟩ : ∃ q, q = hh + (encs dn).length := ⟨_, rfl⟩
    rw [← hq] at hcells HSL
    have HQ := Lib.hid hq; clear hq
    cases rs with
    | nil =>
      obtain ⟨o', C, rfl, hnC, hCm, ho⟩ := HSL.out
      have hz : (outs S ([] : List DOp)).length = 0 := rfl
      have hz2 : (encs []).length = 0 := rfl
      rw [hz, hz2]
      go_wp2
      go_ret
      exact ⟨rfl, by have := HIb.out; rw [HOPS.out, List.append_nil]; exact this, HB.out⟩
    | cons a rs =>
    have HOK1 := Lib.hid (hokr.out a (by simp))
    obtain ⟨n1, hn1⟩ : ∃ n1, n1 = (encs rs).length := ⟨_, rfl⟩
    obtain ⟨m1, hm1⟩ : ∃ m1, m1 = (outs S rs).length := ⟨_, rfl⟩
    have HN1 := Lib.hid hn1; have HM1 := Lib.hid hm1
    cases a with
    | inl l =>
      obtain ⟨z, hz⟩ : ∃ z, z = l.length := ⟨_, rfl⟩
      have hz1 : 1 ≤ z := by rw [hz]; exact HOK1.out.1
      have hz2 : z ≤ 127 := by rw [hz]; exact HOK1.out.2
      have hzw : Hid (l.length = z) := Lib.hid hz.symm
      have he : encs (Sum.inl l :: rs) = z :: (l ++ encs rs) := by rw [hz]; rfl
      have hn0 : (encs (Sum.inl l :: rs)).length = 1 + (z + n1) := by rw [he, hn1, hz]; simp; omega
      have hm0 : (outs S (Sum.inl l :: rs)).length = z + m1 := by rw [hm1, hz]; show (l ++ outs S rs).length = _; simp
      have HE := Lib.hid he
      have hlen2 := hlen.out
      rw [hm0] at hlen2 ⊢
      rw [hn0] at HSL hcells
      clear hn0 hm0 he hz hn1 hm1
      have HX := Lib.hid (and128_low z (by omega))
      obtain ⟨o', C, rfl, hnC, hCm, ho⟩ := HSL.out
      have hqo : q = o' := (ho (by omega)).symm
      subst hqo
      clear HSL ho
      have hcmd : wr.cell? ⟨db, q, none⟩ = some (.int .u8 (z : Nat)) := by have := hcells.out 0 (by omega); rw [HE.out] at this; exact this
      have hr1i : (0 : Int) < ((1 + (z + n1) : Nat) : Int) := by omega
      obtain ⟨n0, hn0⟩ : ∃ n0, n0 = 1 + (z + n1) := ⟨_, rfl⟩
      rw [← hn0] at hnC hcells hr1i ⊢
      have HN0 := Lib.hid hn0
      have hn0z : ((n0 : Int) == 0) = false := beq_eq_false_iff_ne.mpr (by omega)
      have hn01 : (1 : Int) ≤ (n0 : Int) := by omega
      have hC1 : (1 : Int) ≤ (C : Int) := by omega
      have hm1 : ¬ C - 1 = 0 := by omega
      have hzm : (0 : Int) < ((z + m1 : Nat) : Int) := by omega
      obtain ⟨m0, hm0⟩ : ∃ m0, m0 = z + m1 := ⟨_, rfl⟩
      rw [← hm0] at hlen2 hzm ⊢
      have HM0 := Lib.hid hm0
      clear hn0 hm0
      go_wp2_with fail
      with_reducible refine (copySrc_no z wr HX.out).mono ?_
      rintro e w' ⟨rfl, rfl⟩
      go_wp2_with fail
      with_reducible refine (copyDelta_yes z _ HX.out (by omega)).mono ?_
      rintro e w' ⟨rfl, rfl⟩
      have HINV := Lib.hid (fun w => invalidSize_no z m0 w (by have := HM0.out; omega))
      go_wp2_with fail
      with_reducible refine (HINV.out _).mono ?_
      rintro e w' ⟨rfl, rfl⟩
      obtain ⟨n2, hn2⟩ : ∃ n2, n2 = n0 - 1 := ⟨_, rfl⟩
      rw [← hn2]
      have hzn : z ≤ n2 := by have := HN0.out; omega
      have hzC : z ≤ C - 1 := by omega
      obtain ⟨C2, hC2⟩ : ∃ C2, C2 = C - 1 := ⟨_, rfl⟩
      rw [← hC2]
      have hzC2 : z ≤ C2 := by omega
      have hC2m : C2 ≤ 9223372036854775807 := by omega
      have hzni : ¬ (n2 : Int) < (z : Int) := by omega
      have hzni2 : (z : Int) ≤ (n2 : Int) := by omega
      have hzCi : (z : Int) ≤ (C2 : Int) := by omega
      have HN2 := Lib.hid (show n2 = z + n1 by have := HN0.out; omega)
      have hn2C : n2 ≤ C2 := by have := HN0.out; omega
      have hwn2 : IntKind.u64.wrap (n2 : Int) = (n2 : Int) := by rw [IntKind.wrap_u64]; omega
      have HC2 := Lib.hid hn2C
      have HWR := Lib.hid (fun c => write_aw B b db (q + 1) z c (outs S dn) l wr HIb.out hBr hzw.out hdb (by have := HM0.out; omega) (fun j hj => by
        have := hcells.out (1 + j) (by have := HN0.out; omega)
        rw [HE.out] at this
        rw [show q + 1 + j = q + (1 + j) by omega, this, show 1 + j = j + 1 by omega]
        congr 2
        simp [List.getD_eq_getElem?_getD, List.getElem?_append_left (show j < l.length by rw [hzw.out]; exact hj)]))
      clear hn2 hC2 hcmd hm1 hnC hCm hn0z hn01 hC1 hr1i hzC
      go_wp2_with fail
      with_reducible refine (HWR.out _).mono ?_
      rintro e w6 ⟨rfl, hI6, hb6⟩
      have HI6 : Hid (IsBuf B b (u8s (outs S (dn ++ [Sum.inl l]))) w6) := Lib.hid (by rw [outs_append, outs_one]; exact hI6)
      have HB6 : Hid (Below B w w6) := Lib.hid (HB.out.trans hb6)
      have HBL : Hid (B ≤ w6.heap.size) := Lib.hid (Nat.le_trans hBr hb6.size)
      have HSLF : Hid (∀ v, (C2 - z = 0 → ∃ o, v = .slice (some ⟨db, o, none⟩) (n2 - z) 0) → (C2 - z ≠ 0 → v = .slice (some ⟨db, q + 1 + z, none⟩) (n2 - z) (C2 - z)) → Sl db (hh + (encs (dn ++ [Sum.inl l])).length) (encs rs).length v) := Lib.hid (by
        intro v h1 h2
        have e1 : hh + (encs (dn ++ [Sum.inl l])).length = q + 1 + z := by rw [encs_append, encs_one, List.length_append, HQ.out]; show _ + (_ + (l.length + 1)) = _; rw [hzw.out]; omega
        have e2 := HN2.out
        rw [e1, ← HN1.out]
        have e3 := HC2.out
        by_cases hC : C2 - z = 0
        · obtain ⟨o, ho⟩ := h1 hC
          exact ⟨o, 0, by rw [ho]; congr 1; omega, by omega, by omega, fun h => by omega⟩
        · exact ⟨q + 1 + z, C2 - z, by rw [h2 hC]; congr 1; omega, by omega, by omega, fun _ => rfl⟩)
      have HMF : Hid ((m0 : Int) - (z : Int) = ((outs S rs).length : Nat)) := Lib.hid (by have := HM0.out; rw [← HM1.out]; omega)
      have hmz : (z : Int) ≤ (m0 : Int) := by have := HM0.out; omega
      clear hI6 hb6 HINV HWR hzni
      have hmT : m0 ≤ 1000 := by omega
      by_cases hC : C2 - z = 0
      · go_wp2
        all_goals
          go_roundw
          case rel => exact ⟨HB6.out, HBL.out, dn ++ [Sum.inl l], rs, by rw [HOPS.out, List.append_assoc]; rfl, HSLF.out _ (fun _ => ⟨_, by first | rfl | (rw [hC])⟩) (fun h => absurd hC h), by congr 1 <;> exact HMF.out, HI6.out⟩
          case measure => have := HMF.out; simp [awMeasure] <;> omega
      · go_wp2
        all_goals
          go_roundw
          case rel => exact ⟨HB6.out, HBL.out, dn ++ [Sum.inl l], rs, by rw [HOPS.out, List.append_assoc]; rfl, HSLF.out _ (fun h => absurd h hC) (fun _ => rfl), by congr 1 <;> exact HMF.out, HI6.out⟩
          case measure => have := HMF.out; simp [awMeasure] <;> omega
    | inr p =>
      obtain ⟨o, k⟩ := p
      obtain ⟨a1, ha1⟩ : ∃ a1, a1 = bit1 (o % 256) + bit1 (o / 256) := ⟨_, rfl⟩
      obtain ⟨a2, ha2⟩ : ∃ a2, a2 = bit1 (k % 256) + bit1 (k / 256) := ⟨_, rfl⟩
      obtain ⟨x, hx⟩ : ∃ x, x = cpyCode o k := ⟨_, rfl⟩
      have hok1 : o + k ≤ N := HOK1.out.1
      have hok2 : 16 ≤ k := HOK1.out.2
      have he : encs (Sum.inr (o, k) :: rs) = x :: ((optB (o % 256) ++ optB (o / 256)) ++ ((optB (k % 256) ++ optB (k / 256)) ++ encs rs)) := by
        rw [hx]; show cpyEnc o k ++ encs rs = _; unfold cpyEnc; simp
      have l1 : (optB (o % 256) ++ optB (o / 256)).length = a1 := by rw [List.length_append, optB_len, optB_len, ha1]
      have l2 : (optB (k % 256) ++ optB (k / 256)).length = a2 := by rw [List.length_append, optB_len, optB_len, ha2]
      have hn0 : (encs (Sum.inr (o, k) :: rs)).length = 1 + (a1 + (a2 + n1)) := by
        have l1' := l1; have l2' := l2
        rw [he, hn1]
        simp only [List.length_cons, List.length_append] at l1' l2' ⊢
        omega
      have hm0 : (outs S (Sum.inr (o, k) :: rs)).length = k + m1 := by
        show (((S.drop o).take k) ++ outs S rs).length = _
        rw [List.length_append, List.length_take, List.length_drop, ← HN.out, ← hm1]; omega
      have ha2p : 1 ≤ a2 := by
        rw [ha2]; unfold bit1
        by_cases h0 : k % 256 = 0
        · rw [if_pos h0, if_neg (show k / 256 ≠ 0 by omega)]; omega
        · rw [if_neg h0]; omega
      have HE := Lib.hid he
      have hlen2 := hlen.out
      rw [hm0] at hlen2 ⊢
      rw [hn0] at HSL hcells
      have hxl := cpyCode_lt o k
      rw [← hx] at hxl
      obtain ⟨hx1, hx2⟩ := hxl
      have HX := Lib.hid (show bits .and .u8 (x : Int) 128 = 128 by rw [hx]; exact (code_bits (bit1 (o % 256)) (bit1 (o / 256)) (bit1 (k % 256)) (bit1 (k / 256)) (bit1_le _) (bit1_le _) (bit1_le _) (bit1_le _)).2.2.2.2)
      have HBO := Lib.hid (cpy_bitsO o k)
      have HBN := Lib.hid (cpy_bitsN o k)
      rw [← hx] at HBO HBN
      have HA1 := Lib.hid ha1; have HA2 := Lib.hid ha2; have HL1 := Lib.hid l1; have HL2 := Lib.hid l2
      have HXX := Lib.hid hx
      clear hm0 he hn1 hm1 ha1 ha2 l1 l2 hx
      have hn0b : 1 + (a1 + (a2 + n1)) ≤ 100000 := by
        have h1 := encs_len S HN.out.symm hokr.out
        have h2 := hlen.out
        rw [hn0] at h1
        omega
      obtain ⟨o', C, rfl, hnC, hCm, ho⟩ := HSL.out
      have hqo : q = o' := (ho (by omega)).symm
      subst hqo
      clear HSL ho
      have hcmd : wr.cell? ⟨db, q, none⟩ = some (.int .u8 (x : Nat)) := by have := hcells.out 0 (by omega); rw [HE.out] at this; exact this
      have hg : Hid (∀ i, i < a1 + (a2 + n1) → (encs (Sum.inr (o, k) :: rs)).getD (1 + i) 0 < 256) := Lib.hid (fun i hi => by
        refine HLT.out _ ?_
        rw [HOPS.out, encs_append]
        refine List.mem_append_right _ ?_
        have hl : 1 + i < (encs (Sum.inr (o, k) :: rs)).length := by rw [hn0]; omega
        rw [List.getD_eq_getElem?_getD, List.getElem?_eq_getElem hl]
        exact List.getElem_mem hl)
      clear hn0
      obtain ⟨n0, hn0⟩ : ∃ n0, n0 = 1 + (a1 + (a2 + n1)) := ⟨_, rfl⟩
      rw [← hn0] at hnC hcells hn0b ⊢
      have HN0 := Lib.hid hn0
      have hr1i : (0 : Int) < (n0 : Int) := by omega
      have hn0z : ((n0 : Int) == 0) = false := beq_eq_false_iff_ne.mpr (by omega)
      have hn01 : (1 : Int) ≤ (n0 : Int) := by omega
      have hC1 : (1 : Int) ≤ (C : Int) := by omega
      have hm1 : ¬ C - 1 = 0 := by omega
      obtain ⟨m0, hm0⟩ : ∃ m0, m0 = k + m1 := ⟨_, rfl⟩
      rw [← hm0] at hlen2 ⊢
      have hzm : (0 : Int) < (m0 : Int) := by omega
      have HM0 := Lib.hid hm0
      have hdbw : db < wr.heap.size := by omega
      obtain ⟨n2, hn2⟩ : ∃ n2, n2 = n0 - 1 := ⟨_, rfl⟩
      have HN2 := Lib.hid (show n2 = a1 + (a2 + n1) by omega)
      have HV := Lib.hid (show Sl db (q + 1) n2 (.slice (some ⟨db, q + 1, none⟩) (n0 - 1) (C - 1)) from ⟨q + 1, C - 1, by rw [hn2], by omega, by omega, fun _ => rfl⟩)
      clear hn0 hm0 hn2
      go_wp2_with fail
      with_reducible refine (copySrc_yes x wr HX.out).mono ?_
      rintro e w' ⟨rfl, rfl⟩
      have HDO := Lib.hid (decodeOff_any x db (q + 1) n2 _ (pO o) (fun i => (encs (Sum.inr (o, k) :: rs)).getD (1 + i) 0) wr HV.out (by have := HN2.out; have := HN0.out; omega) hdbw (by rw [posP_pO4, ← HA1.out]; have := HN2.out; omega) HBO.out
        (fun i hi => hg.out i (by have := HN2.out; omega)) (fun i hi => by rw [show q + 1 + i = q + (1 + i) by omega]; exact hcells.out (1 + i) (by have := HN2.out; have := HN0.out; omega)))
      go_wp2_with fail
      with_reducible refine HDO.out.mono ?_
      rintro e w4 ⟨u1, rfl, hu1, hb4⟩
      have hvo : valP (pO o) (fun i => (encs (Sum.inr (o, k) :: rs)).getD (1 + i) 0) 4 = o := valP_pO4 o _ (fun i hi => by
        rw [HE.out]
        rw [show 1 + i = i + 1 by omega, List.getD_cons_succ]
        simp only [List.getD_eq_getElem?_getD]
        rw [List.getElem?_append_left (by rw [HL1.out, HA1.out]; exact hi)])
      rw [hvo]
      rw [posP_pO4, ← HA1.out] at hu1
      have HU1 := Lib.hid hu1
      have HB4 := Lib.hid hb4
      clear hvo hu1 hb4 HDO hcmd
      have HDS := Lib.hid (decodeSize_any x db (q + 1 + a1) (n2 - a1) u1 (pO k) (fun i => (encs (Sum.inr (o, k) :: rs)).getD (1 + a1 + i) 0) w4 HU1.out (by have := HN2.out; have := HN0.out; omega) (Nat.lt_of_lt_of_le hdbw HB4.out.size) (by rw [posP_pO3, ← HA2.out]; have := HN2.out; omega) HBN.out
        (fun i hi => by have := hg.out (a1 + i) (by have := HN2.out; omega); rwa [← Nat.add_assoc] at this) (fun i hi => by
          rw [HB4.out.cell (p := ⟨db, q + 1 + a1 + i, none⟩) hdbw, show q + 1 + a1 + i = q + (1 + a1 + i) by omega]
          exact hcells.out (1 + a1 + i) (by have := HN2.out; have := HN0.out; omega))
        (by
          rw [valP_pO3 k _ (fun i hi => by
            rw [HE.out, show 1 + a1 + i = (a1 + i) + 1 by omega, List.getD_cons_succ, show a1 + i = (optB (o % 256) ++ optB (o / 256)).length + i by rw [HL1.out], getD_off]
            simp only [List.getD_eq_getElem?_getD]
            rw [List.getElem?_append_left (by rw [HL2.out, HA2.out]; exact hi)])]
          omega))
      go_wp2_with fail
      with_reducible refine HDS.out.mono ?_
      rintro e w5 ⟨u2, rfl, hu2, hb5⟩
      have hvk : valP (pO k) (fun i => (encs (Sum.inr (o, k) :: rs)).getD (1 + a1 + i) 0) 3 = k := valP_pO3 k _ (fun i hi => by
            rw [HE.out, show 1 + a1 + i = (a1 + i) + 1 by omega, List.getD_cons_succ, show a1 + i = (optB (o % 256) ++ optB (o / 256)).length + i by rw [HL1.out], getD_off]
            simp only [List.getD_eq_getElem?_getD]
            rw [List.getElem?_append_left (by rw [HL2.out, HA2.out]; exact hi)])
      rw [hvk]
      rw [posP_pO3, ← HA2.out] at hu2
      have HU2 := Lib.hid hu2
      have HB5 : Hid (Below wr.heap.size wr w5) := Lib.hid (HB4.out.trans (hb5.mono HB4.out.size))
      clear hvk hu2 hb5 HDS HB4 HU1
      have HINV := Lib.hid (fun w => invalidSize_no k m0 w (by have := HM0.out; omega))
      have HINO := Lib.hid (fun w => invalidOffset_no o k N w (by omega) hok1)
      go_wp2_with fail
      with_reducible refine (HINV.out _).mono ?_
      rintro e w' ⟨rfl, rfl⟩
      go_wp2_with fail
      with_reducible refine (HINO.out _).mono ?_
      rintro e w' ⟨rfl, rfl⟩
      have hc1a : (o : Int) + (k : Int) ≤ (c1 : Int) := by omega
      have hc1b : (o : Int) ≤ (o : Int) + (k : Int) := by omega
      have hc1c : ¬ c1 - o = 0 := by omega
      have hI5 : IsBuf B b (u8s (outs S dn)) w5 := Lib.IsBuffer.old HIb.out HB5.out
      have hkl : ((S.drop o).take k).length = k := by rw [List.length_take, List.length_drop, ← HN.out]; omega
      have HWR := Lib.hid (fun c => write_aw B b sb o k c (outs S dn) ((S.drop o).take k) w5 hI5 (Nat.le_trans hBr HB5.out.size) hkl hsb (by have := HM0.out; omega) (fun j hj => by
        rw [HB5.out.cell (p := ⟨sb, o + j, none⟩) (by show sb < _; omega), hsrc.out (o + j) (by omega)]
        congr 3
        simp only [List.getD_eq_getElem?_getD]
        rw [List.getElem?_take_of_lt hj, List.getElem?_drop]))
      clear hI5 hkl HINV HINO
      go_wp2_with fail
      with_reducible refine (HWR.out _).mono ?_
      rintro e w6 ⟨rfl, hI6, hb6⟩
      have HI6 : Hid (IsBuf B b (u8s (outs S (dn ++ [Sum.inr (o, k)]))) w6) := Lib.hid (by rw [outs_append, outs_one]; exact hI6)
      have HB6 : Hid (Below B w w6) := Lib.hid (HB.out.trans ((HB5.out.mono hBr).trans hb6))
      have HBL : Hid (B ≤ w6.heap.size) := Lib.hid (Nat.le_trans (Nat.le_trans hBr HB5.out.size) hb6.size)
      have HSLF : Hid (Sl db (hh + (encs (dn ++ [Sum.inr (o, k)])).length) (encs rs).length u2) := Lib.hid (by
        have e1 : hh + (encs (dn ++ [Sum.inr (o, k)])).length = q + 1 + a1 + a2 := by
          rw [encs_append, encs_one, List.length_append, HQ.out]
          show _ + (_ + (cpyEnc o k).length) = _
          rw [cpyEnc_len, HA1.out, HA2.out]; omega
        have e2 : n2 - a1 - a2 = (encs rs).length := by rw [← HN1.out, HN2.out]; omega
        rw [e1, ← e2]
        exact HU2.out)
      have HMF : Hid ((m0 : Int) - (k : Int) = ((outs S rs).length : Nat)) := Lib.hid (by have := HM0.out; rw [← HM1.out]; omega)
      have hmz : (k : Int) ≤ (m0 : Int) := by have := HM0.out; omega
      have hmT : m0 ≤ 1000 := by omega
      clear hI6 hb6 HWR
      go_wp2
      go_roundw
      case rel => exact ⟨HB6.out, HBL.out, dn ++ [Sum.inr (o, k)], rs, by rw [HOPS.out, List.append_assoc]; rfl, HSLF.out, by congr 1 <;> exact HMF.out, HI6.out⟩
      case measure => have := HMF.out; simp [awMeasure] <;> omega
end Go.Proofs.YtgibmkgibkhemaaDoor
