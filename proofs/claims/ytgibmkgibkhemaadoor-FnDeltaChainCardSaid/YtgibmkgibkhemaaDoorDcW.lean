/- encodeInsertOperation. -/
import Derived.Test.YtgibmkgibkhemaaDoorDcV
namespace Go.Proofs.YtgibmkgibkhemaaDoor
open Go.Shelf Go.RowKit
set_option linter.unusedSimpArgs false
set_option linter.unusedVariables false

def NewRow (w : World) (r1 r : Option Nat) : Prop := r1 = r ∨ ∃ g, r = some g ∧ w.heap.size ≤ g
theorem kstep {b1 b2 r' : Nat} {r1 r : Option Nat} {w W W' : World} (hk : Kp (fun k => k = b1 ∨ k = b2 ∨ r1 = some k) w W) (hp : NewRow w r1 r) (hw : Kp (fun k => k = b1 ∨ r = some k) W W') (hr : r = some r' ∨ W.heap.size ≤ r') :
    Kp (fun k => k = b1 ∨ k = b2 ∨ r1 = some k) w W' ∧ NewRow w r1 (some r') := by
  refine ⟨hk.trans hw ?_, ?_⟩
  · rintro i hi (e | e)
    · exact .inl e
    · rcases hp with hp | ⟨g, hg, hge⟩
      · exact .inr (.inr (hp.trans e))
      · rw [hg] at e; cases e; omega
  · rcases hr with hr | hr
    · rw [← hr]; exact hp
    · exact .inr ⟨r', rfl, Nat.le_trans hk.size hr⟩
theorem InsL.enc_len {ops : List DOp} {I : List Nat} (h : InsL ops I) : (encs ops).length ≤ 2 * I.length := by
  have := encs_len [] rfl (h.ok 0)
  rwa [h.out []] at this
set_option maxRecDepth 100000 in
set_option maxHeartbeats 8000000 in
theorem encInsert_any (b1 : Nat) (r1 : Option Nat) (X : List Nat) (b2 : Nat) (r2 : Option Nat) (I : List Nat) (w : World) (h : TB w b1 r1 X b2 r2 I) (hr1 : r1 ≠ none) (hX : X.length ≤ 100000) (hI : I.length ≤ 2000) :
    Calls Tryd.prog 41 #[.pointer (some ⟨b2, 0, none⟩), .pointer (some ⟨b1, 0, none⟩)] w (InsPost b1 r1 X b2 r2 I w) := by
  obtain ⟨A, cap, c0, c1, hm, hA⟩ := h.ibuf.head
  have HL := Lib.hid (len_s b2 I.length cap A w c0 c1 hm)
  have HT := Lib.hid h
  by_cases hI0 : I = []
  · subst hI0
    have hz : ([] : List Nat).length = 0 := rfl
    rw [hz] at HL
    go_enter Tryd.func41, Tryd.ntmps41
    go_wp2_with fail
    with_reducible refine HL.out.mono ?_
    rintro e w' ⟨rfl, k, rfl⟩
    go_wp2
    go_returns
    exact ⟨rfl, [], r1, InsL.nil, by simpa [encs] using HT.out.keep (Kp.of_below (w := w) (below_drewN (Below.refl _ _) k) (fun _ => False)) id id (fun _ _ h => h) (fun _ _ h => h), (Kp.refl _ _).drewN k, .inl rfl⟩
  obtain ⟨g2, rfl⟩ := h.ibuf.row hI0
  obtain ⟨rfl, hcl, hcm⟩ := hA g2 rfl
  obtain ⟨n, hn⟩ : ∃ n, n = I.length := ⟨_, rfl⟩
  have hn1 : 1 ≤ n := by
    cases I with
    | nil => exact absurd rfl hI0
    | cons a l => rw [hn]; simp
  have HN := Lib.hid hn
  rw [← hn] at HL c0 hcl hI hm
  have hnz : ((n : Int) == 0) = false := beq_eq_false_iff_ne.mpr (by omega)
  clear hn hI0 hA h
  have hstep : ∀ W W' k, TB W b1 r1 X b2 (some g2) I → W.cell? ⟨b2, 0, none⟩ = some (.slice (some ⟨g2, 0, none⟩) n cap) → W.cell? ⟨b2, 1, none⟩ = some (.int .i64 0) → Kp (fun k => k = b1 ∨ k = b2 ∨ r1 = some k) w W → W' = W.drewN k →
      TB W' b1 r1 X b2 (some g2) I ∧ W'.cell? ⟨b2, 0, none⟩ = some (.slice (some ⟨g2, 0, none⟩) n cap) ∧ W'.cell? ⟨b2, 1, none⟩ = some (.int .i64 0) ∧ Kp (fun k => k = b1 ∨ k = b2 ∨ r1 = some k) w W' := by
    rintro W W' k ht h0 h1 hk rfl
    exact ⟨ht.keep (X0 := fun _ => False) ((Kp.refl _ _).drewN _) id id (fun _ _ h => h) (fun _ _ h => h), h0, h1, hk.drewN _⟩
  have HST := Lib.hid hstep
  have H0 := Lib.hid c0; have H1 := Lib.hid c1
  clear c0 c1 hstep
  go_enter Tryd.func41, Tryd.ntmps41
  go_wp2_with fail
  with_reducible refine HL.out.mono ?_
  rintro e w1 ⟨rfl, k, hw1⟩
  obtain ⟨t1, d0, d1, k1⟩ := HST.out w w1 k HT.out H0.out H1.out (Kp.refl _ _) hw1
  have HBY := Lib.hid (bytes_s b2 n cap g2 w1 d0 d1 hcl hcm hn1)
  have T1 := Lib.hid t1; have D0 := Lib.hid d0; have D1 := Lib.hid d1; have K1 := Lib.hid k1
  clear t1 d0 d1 k1 hw1 HL HT H0 H1
  go_wp2_with fail
  with_reducible refine HBY.out.mono ?_
  rintro e w2 ⟨rfl, k2, hw2⟩
  obtain ⟨t2, d0, d1, k1⟩ := HST.out w1 w2 k2 T1.out D0.out D1.out K1.out hw2
  have HL2 := Lib.hid (len_s b2 n cap _ w2 d0 d1 hm)
  have T2 := Lib.hid t2; have D0 := Lib.hid d0; have D1 := Lib.hid d1; have K2 := Lib.hid k1
  clear t2 d0 d1 k1 hw2 HBY T1 K1
  go_wp2_with fail
  with_reducible refine HL2.out.mono ?_
  rintro e w3 ⟨rfl, k3, hw3⟩
  obtain ⟨t3, d0, d1, k1⟩ := HST.out w2 w3 k3 T2.out D0.out D1.out K2.out hw3
  have T3 := Lib.hid t3; have K3 := Lib.hid k1
  clear t3 d0 d1 k1 hw3 HL2 T2 K2 HST
  unfold maxLen at hcm
  go_wp2
  go_loopw [5, 6] (fun sv ov wr => ∃ (k : Nat) (ops : List DOp) (r : Option Nat), ov = .int .i64 (k : Nat) ∧ sv = .int .i64 ((n : Int) - k) ∧ k < n ∧ InsL ops (I.take k) ∧ TB wr b1 r (X ++ encs ops) b2 (some g2) I ∧ Kp (fun k => k = b1 ∨ k = b2 ∨ r1 = some k) w wr ∧ NewRow w r1 r ∧ r ≠ none) (fun sv _ _ => (intOf sv).toNat)
  case atStart => exact ⟨0, [], r1, rfl, by simp, by omega, by rw [List.take_zero]; exact InsL.nil, by simpa [encs] using T3.out, K3.out, .inl rfl, hr1⟩
  case round =>
    obtain ⟨k, ops, r, rfl, rfl, hk, hins, ht, hkp, hnew, hrn⟩ := hrel
    have HINS := Lib.hid hins; have HT := Lib.hid ht; have HKP := Lib.hid hkp; have HNEW := Lib.hid hnew
    have hel := hins.enc_len
    have hkl : (I.take k).length = k := by rw [List.length_take, ← HN.out]; omega
    rw [hkl] at hel
    obtain ⟨q, hq⟩ : ∃ q, q = min 127 (n - k) := ⟨_, rfl⟩
    have hq1 : 1 ≤ q := by omega
    have hq2 : q ≤ 127 := by omega
    have hq3 : k + q ≤ n := by omega
    have hcl2 : ((I.drop k).take q).length = q := by rw [List.length_take, List.length_drop, ← HN.out]; omega
    have HCL := Lib.hid hcl2
    have hXl : (X ++ encs ops).length ≤ 110000 := by rw [List.length_append]; omega
    have HXL := Lib.hid hXl
    have HWB := Lib.hid (writeByteN_s b1 r (X ++ encs ops) q wr HT.out.buf (by omega))
    have HW := Lib.hid (fun (W : World) (r' c : Nat) (hT : TB W b1 (some r') (X ++ encs ops ++ [q]) b2 (some g2) I) => writeN_s b1 (some r') (X ++ encs ops ++ [q]) ((I.drop k).take q) g2 k q c W hT.buf HCL.out hq1 (fun h => by cases h) (fun e => hT.s2 (by rw [e])) (fun e => hT.s3 g2 e rfl)
      (fun j hj => by
        rw [hT.ibuf.at (k + j) (by rw [← HN.out]; omega)]
        congr 3
        simp only [List.getD_eq_getElem?_getD]
        rw [List.getElem?_take_of_lt hj, List.getElem?_drop]) (by rw [List.length_append, List.length_singleton]; have := HXL.out; omega))
    have HIN2 : Hid (InsL (ops ++ [Sum.inl ((I.drop k).take q)]) (I.take (k + q))) := Lib.hid (by
      rw [List.take_add]
      exact HINS.out.snoc (by rw [HCL.out]; exact hq1) (by rw [HCL.out]; exact hq2))
    have HE2 : Hid (X ++ encs ops ++ [q] ++ (I.drop k).take q = X ++ encs (ops ++ [Sum.inl ((I.drop k).take q)])) := Lib.hid (by
      rw [encs_append, encs_one, List.append_assoc, List.append_assoc]
      show _ = X ++ (encs ops ++ (((I.drop k).take q).length :: (I.drop k).take q))
      rw [HCL.out]; rfl)
    clear hins ht hkp hnew hel hkl hcl2 hXl
    by_cases hle : n - k ≤ 127
    · have hqe : q = n - k := by omega
      have hlei : (n : Int) - k ≤ 127 := by omega
      have hqi : (n : Int) - k = (q : Int) := by omega
      rw [hqi]
      have HQE := Lib.hid hqe
      clear hq hqi hqe hle hlei
      have hlei : (q : Int) ≤ 127 := by omega
      have hq255 : q ≤ 255 := by omega
      have hkq : (k : Int) + q ≤ cap := by omega
      have hkq2 : (k : Int) ≤ k + q := by omega
      have hcapk : ¬ cap - k = 0 := by omega
      go_wp2_with fail
      with_reducible refine HWB.out.mono ?_
      rintro e w4 ⟨rfl, r4, hb4, hkp4, hr4⟩
      have HT4 := Lib.hid (HT.out.wrote hb4 hkp4 hr4)
      obtain ⟨k4, n4⟩ := kstep HKP.out HNEW.out hkp4 hr4
      have HK4 := Lib.hid k4; have HN4 := Lib.hid n4
      have HW4 := Lib.hid (fun c => HW.out w4 r4 c HT4.out)
      clear hb4 hkp4 hr4 k4 n4
      go_wp2_with fail
      with_reducible refine (HW4.out _).mono ?_
      rintro e w5 ⟨rfl, r5, hb5, hkp5, hr5⟩
      have HT5 := Lib.hid (HT4.out.wrote hb5 hkp5 hr5)
      obtain ⟨k5, n5⟩ := kstep HK4.out HN4.out hkp5 hr5
      have HK5 := Lib.hid k5; have HN5 := Lib.hid n5
      have HRS := Lib.hid (reset_s b2 (some g2) (u8s I) w5 HT5.out.ibuf)
      clear hb5 hkp5 hr5 k5 n5
      go_wp2_with fail
      with_reducible refine HRS.out.mono ?_
      rintro e w6 ⟨rfl, hb6, hkp6⟩
      have HB6 := Lib.hid hb6; have HKP6 := Lib.hid hkp6
      clear hb6 hkp6
      go_wp2
      go_returns
      refine ⟨rfl, ops ++ [Sum.inl ((I.drop k).take q)], some r5, ?_, ?_, HK5.out.trans HKP6.out (fun i _ e => .inr (.inl e)), HN5.out⟩
      · have := HIN2.out
        rwa [show k + q = I.length by rw [← HN.out]; have := HQE.out; omega, List.take_length] at this
      · have t5 := HT5.out
        rw [HE2.out] at t5
        refine ⟨t5.buf.keep HKP6.out (fun e => t5.ne e) (fun g hg e => t5.s1 (by rw [hg, e])), HB6.out, t5.ne, t5.s1, t5.s2, t5.s3⟩
    · have hqe : q = 127 := by omega
      have hlei : ¬ (n : Int) - k ≤ 127 := by omega
      subst hqe
      clear hq
      have HWB7 : Hid (Calls Tryd.prog 40 #[.pointer (some ⟨b1, 0, none⟩), .int .u8 127] wr (WrS b1 r (u8s (X ++ encs ops ++ [127])) .nilIface wr)) := Lib.hid HWB.out
      have hkq : (k : Int) + 127 ≤ cap := by omega
      have hcapk : ¬ cap - k = 0 := by omega
      go_wp2_with fail
      with_reducible refine HWB7.out.mono ?_
      rintro e w4 ⟨rfl, r4, hb4, hkp4, hr4⟩
      have HT4 := Lib.hid (HT.out.wrote hb4 hkp4 hr4)
      obtain ⟨k4, n4⟩ := kstep HKP.out HNEW.out hkp4 hr4
      have HK4 := Lib.hid k4; have HN4 := Lib.hid n4
      have HW4 := Lib.hid (fun c => HW.out w4 r4 c HT4.out)
      clear hb4 hkp4 hr4 k4 n4
      go_wp2_with fail
      with_reducible refine (HW4.out _).mono ?_
      rintro e w5 ⟨rfl, r5, hb5, hkp5, hr5⟩
      have HT5 := Lib.hid (HT4.out.wrote hb5 hkp5 hr5)
      obtain ⟨k5, n5⟩ := kstep HK4.out HN4.out hkp5 hr5
      have HK5 := Lib.hid k5; have HN5 := Lib.hid n5
      clear hb5 hkp5 hr5 k5 n5
      go_wp2
      go_roundw
      case rel => exact ⟨k + 127, _, some r5, by go_num, by congr 1; omega, by omega, HIN2.out, by have := HT5.out; rwa [HE2.out] at this, HK5.out, HN5.out, fun h => by cases h⟩
      case measure => simp [intOf] <;> omega
end Go.Proofs.YtgibmkgibkhemaaDoor
