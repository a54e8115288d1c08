/- ParseAttributesLine and AttrLine where a name is refused, and where there is nothing. Printed by wip/gen_bad.py. -/
import Derived.Test.YteipeagdflcjjaaDoorQAtI
namespace Go.Proofs.YteipeagdflcjjaaDoor
open Go.RowKit
set_option linter.unusedSimpArgs false
set_option linter.unusedVariables false

/-- A package's variable holds an error with a text that is not empty. -/
structure ErrAt (w : World) (g : Nat) (a : Addr) (msg : ByteArray) : Prop where
  var : w.cell? ⟨g, 0, none⟩ = some (.iface 178 (.pointer (some a)))
  text : w.cell? a = some (.string msg)
  some : msg.size ≠ 0
  lt : g < w.heap.size ∧ a.block < w.heap.size
theorem ErrAt.below {w w' : World} {g : Nat} {a : Addr} {msg : ByteArray} (h : ErrAt w g a msg) (hb : Below w.heap.size w w') : ErrAt w' g a msg :=
  ⟨(hb.cell (p := ⟨g, 0, none⟩) h.lt.1).trans h.var, (hb.cell h.lt.2).trans h.text, h.some, Nat.lt_of_lt_of_le h.lt.1 hb.size, Nat.lt_of_lt_of_le h.lt.2 hb.size⟩
/-- A text that is read as a name alone. -/
def PlainA (t : ByteArray) : Prop := 1 ≤ t.size ∧ t.size ≤ 1000 ∧ Asc t ∧ (∀ i, i < t.size → bx t i ≠ 61) ∧ bx t 0 ≠ 33 ∧ bx t 0 ≠ 45
def noAtt : Nat → AttrT := fun _ => (⟨#[]⟩, 0, ⟨#[]⟩)
def BadLine (a : Addr) (w : World) (e : Ending) (w' : World) : Prop :=
  ∃ (x : ByteArray) (A : Option Addr) (n c : Nat), e = .returned (.tuple #[.agg #[.string x, .nilIface, .slice A n c], .iface 178 (.pointer (some a))]) ∧ Below w.heap.size w w'

set_option maxRecDepth 100000 in
set_option maxHeartbeats 8000000 in
theorem parseBad_any (s nm : ByteArray) (F : List ByteArray) (a : Addr) (msg : ByteArray) (allow : Bool) (dA : Option Addr) (dn dc : Nat) (w : World)
    (hs : s.size ≤ 5000) (h1 : 1 ≤ s.size) (hb0 : 33 ≤ bx s 0 ∧ bx s 0 ≠ 34 ∧ bx s 0 ≠ 35) (hbl : 33 ≤ bx s (s.size - 1))
    (hF : fieldsN (nb s) = (nm :: F).map nb) (hF1 : 1 ≤ F.length) (hlen : F.length ≤ 20) (hnms : nm.size ≤ 1000) (hnm : pre nm ⟨#[91, 97, 116, 116, 114, 93]⟩ = false)
    (hatt : ∀ i, i < F.length → PlainA (F.getD i ⟨#[]⟩)) (hvn : ∀ i, i < F.length → vname (F.getD i ⟨#[]⟩) = false) (hv : ErrAt w 0 a msg) :
    Calls Tryd.prog 40 #[.string s, .slice dA dn dc, .bool allow] w (BadLine a w) := by
  have HEV := Lib.hid hv; clear hv
  have HF := Lib.hid hF; have HATT := Lib.hid hatt; have HVN := Lib.hid hvn; have HNM := Lib.hid hnm
  clear hF hatt hvn hnm
  obtain ⟨i0, hi, hz0, hz1, hz2⟩ := info_parts attrInfo
  have HI := Lib.hid hi
  have hconv := Lib.run_convert_string_bytes (P := Tryd.prog) (w.alloc (.cells #[.string ⟨#[]⟩, .nilIface, .slice none 0 0] 87)) 9 99 5 s strKind bytesKind byteKind
  have HB0 : Hid (Below w.heap.size w (w.alloc (.cells #[.string ⟨#[]⟩, .nilIface, .slice none 0 0] 87))) := Lib.hid ((Below.refl _ _).alloc (Nat.le_refl _) _)
  have HM0 : Hid (MRow (w.alloc (.cells #[.string ⟨#[]⟩, .nilIface, .slice none 0 0] 87)) w.heap.size ⟨#[]⟩ .nilIface (.slice none 0 0)) := Lib.hid (heap_new w _)
  have hs0 : (w.alloc (.cells #[.string ⟨#[]⟩, .nilIface, .slice none 0 0] 87)).heap.size = w.heap.size + 1 := heap_new_size w _
  have HS0 := Lib.hid hs0
  go_enter Tryd.func40, Tryd.ntmps40
  go_upto_region 1 with (fail)
  generalize w.alloc (.cells #[.string ⟨#[]⟩, .nilIface, .slice none 0 0] 87) = W0 at hconv HB0 HM0 hs0 HS0 ⊢
  have HB1 := Lib.hid (bytesBelow W0 5 s)
  have HA1 := Lib.hid (bytesAt_new W0 5 s)
  have HS1 : Hid ((Lib.bytesWorld W0 5 s).heap.size = W0.heap.size + 1) := Lib.hid (by rw [Lib.bytesWorld_size])
  rw [hs0] at hconv
  clear hs0 hi
  go_wp2_with fail
  clear hconv
  generalize Lib.bytesWorld W0 5 s = W1 at HB1 HA1 HS1 ⊢
  generalize grownCap W0 s.size 0 5 = cap1
  have HTR := Lib.hid (atTrim_any (w.heap.size + 1) s.size cap1 (bx s 0) (bx s (s.size - 1)) W1 h1 (by omega) hb0.1 hbl (by rw [← HS0.out]; exact (HA1.out 0 (by omega)).1) (by rw [← HS0.out]; exact (HA1.out (s.size - 1) (by omega)).1))
  with_reducible refine HTR.out.mono ?_
  rintro e w' ⟨rfl, hw'⟩
  have hcv : (convert 99 9 (.slice (some ⟨w.heap.size + 1, 0, none⟩) s.size cap1)).run Tryd.prog W1 = .ok (.string (strOfNums ((List.range s.size).map fun j => (bx s j : Int)))) W1 :=
    BytesAt.str (b := w.heap.size + 1) (by rw [← HS0.out]; exact HA1.out) cap1
  have hrs : strOfNums ((List.range s.size).map fun j => (bx s j : Int)) = s := nb_inj (by
    have e : ((List.range s.size).map fun j => (bx s j : Int)) = (nb s).map fun c : Nat => (c : Int) := by
      refine List.ext_getElem (by simp [nb_length]) fun i h1 h2 => ?_
      simp [bx_getElem]
    rw [e, nb_strOfNums _ (fun c hc => nb_lt hc)])
  rw [hrs] at hcv
  clear hrs HTR
  have HB1w : Hid (Below w.heap.size w W1) := Lib.hid (HB0.out.trans (HB1.out.mono HB0.out.size))
  have HM1 : Hid (MRow W1 w.heap.size ⟨#[]⟩ .nilIface (.slice none 0 0)) := Lib.hid (HM0.out.below HB1.out HM0.out.lt)
  have hsz1 : w.heap.size + 2 = W1.heap.size := by rw [HS1.out, HS0.out]
  have HSZ1 := Lib.hid hsz1
  clear HA1 HB1 HB0 HM0 HS0 HS1 hsz1
  subst hw'
  go_wp2_with fail
  clear hcv
  have HP35 : Hid (pre s ⟨#[35]⟩ = false) := Lib.hid (by
    unfold pre
    rw [Bool.and_eq_false_iff]
    right
    rw [beq_eq_false_iff_ne]
    intro e
    have : nb (s.extract 0 (⟨#[35]⟩ : ByteArray).size) = [bx s 0] := by
      rw [nb_extract, List.drop_zero, show (⟨#[35]⟩ : ByteArray).size - 0 = 0 + 1 from rfl]
      have := drop_bx' s 0 (by omega)
      rw [List.drop_zero] at this
      exact this
    rw [this] at e
    have e2 : ([bx s 0] : List Nat) = [35] := e
    simp at e2
    exact hb0.2.2 e2)
  with_reducible refine (hasPrefix_any s _ _ (by unfold maxLen; omega) (by unfold maxLen; decide)).mono ?_
  rintro e w' ⟨rfl, hw'⟩
  rw [HP35.out]
  subst hw'
  clear HP35
  have hne : ((s.size : Int) == 0) = false := beq_eq_false_iff_ne.mpr (by omega)
  go_wp2_with fail
  with_reducible refine (unquote_any s _ h1 hb0.2.1).mono ?_
  rintro e w' ⟨rfl, hw'⟩
  subst hw'
  clear hne
  go_wp2_with fail
  with_reducible refine (zzFields_any s _ (by omega)).mono ?_
  rintro e w2 ⟨v, L, rfl, hown, hL, hb2⟩
  have HL : Hid (L = nm :: F) := Lib.hid ((List.map_inj_right (fun _ _ h => nb_inj h)).mp (hL.trans HF.out))
  obtain ⟨A, c, hv, hLm, hst⟩ := hown.strs
  subst hv
  have HL1 : Hid (L.length = F.length + 1) := Lib.hid (by rw [HL.out]; rfl)
  have hgl : ∃ gL, A = some ⟨gL, 0, none⟩ ∧ W1.heap.size ≤ gL ∧ gL < w2.heap.size ∧ L.length ≤ c ∧ c ≤ 9223372036854775807 := by
    rcases hown.2 with ⟨h, h0⟩ | ⟨g, cap, cur, hv, hg, hgg, hn, hm, _⟩
    · rw [HL1.out] at h0; omega
    · cases hv
      exact ⟨g, rfl, hg, (Array.getElem?_eq_some_iff.1 hgg).1, hn, Nat.le_trans hm (by unfold maxLen; omega)⟩
  obtain ⟨gL, rfl, hgL1, hgL2, hcL, hcm⟩ := hgl
  have HST : Hid (∀ i, i < F.length + 1 → w2.cell? ⟨gL, i, none⟩ = some (.string ((nm :: F).getD i ⟨#[]⟩))) := Lib.hid (fun i hi => by
    obtain ⟨b, off, e, _, hc⟩ := hst.at i (by rw [HL1.out]; exact hi)
    cases e
    rw [Nat.zero_add, HL.out] at hc
    exact hc)
  have HB2 : Hid (Below w.heap.size w w2) := Lib.hid (HB1w.out.trans (hb2.mono HB1w.out.size))
  have HM2 : Hid (MRow w2 w.heap.size ⟨#[]⟩ .nilIface (.slice none 0 0)) := Lib.hid (HM1.out.below hb2 (by rw [← HSZ1.out]; omega))
  have hcc := HST.out 0 (by omega)
  have hcc0 : w2.cell? ⟨gL, 0, none⟩ = some (.string nm) := hcc
  have hord1 : w.heap.size < gL := by have := HSZ1.out; omega
  rw [HL1.out] at hcL ⊢
  clear hown hL hb2 hst hLm HB1w HM1 HF hcc hgL1
  clear HL HL1
  generalize hFn : F.length = n at *
  have HFN := Lib.hid hFn; clear hFn
  have hz : ((0 : Int) == 0) = true := rfl
  have hn1 : (1 : Int) ≤ ((n + 1 : Nat) : Int) := by omega
  have hc1 : ¬ c = 1 := by omega
  have hcl : ((n : Int) + 1) ≤ c := by omega
  go_wp2_with fail
  with_reducible refine (checkMacro_no nm allow _ (by omega) HNM.out).mono ?_
  rintro e w' ⟨rfl, hw'⟩
  subst hw'
  obtain ⟨m0, m1, m2⟩ := HM2.out.cells
  obtain ⟨f0, f1, f2⟩ := HM2.out.free
  go_upto_region 12 with (fail)
  clear m0 m1 m2 f0 f1 f2
  have HM3 : Hid (MRow (w2.setCell ⟨w.heap.size, 0, none⟩ (.string nm)) w.heap.size nm .nilIface (.slice none 0 0)) := Lib.hid (HM2.out.set0 nm)
  have HST3 : Hid (∀ i, i < n + 1 → (w2.setCell ⟨w.heap.size, 0, none⟩ (.string nm)).cell? ⟨gL, i, none⟩ = some (.string ((nm :: F).getD i ⟨#[]⟩))) := Lib.hid fun i hi => by
    rw [World.cell?_setCell_other _ _ _ _ (fun e => by have := congrArg Addr.block e; dsimp only at this; omega)]
    exact HST.out i hi
  have HB3 : Hid (Below w.heap.size w (w2.setCell ⟨w.heap.size, 0, none⟩ (.string nm))) := Lib.hid (HB2.out.setCell (p := ⟨w.heap.size, 0, none⟩) (Nat.le_refl _) _)
  have hsz3 : (w2.setCell ⟨w.heap.size, 0, none⟩ (.string nm)).heap.size = w2.heap.size := size_setCell _ _ _
  generalize w2.setCell ⟨w.heap.size, 0, none⟩ (.string nm) = W3 at HM3 HST3 HB3 hsz3 ⊢
  clear hcc0 HM2 HST HB2
  obtain ⟨W4, hmk, hown4, hgrow4⟩ := run_make_own (P := Tryd.prog) W3 W3.heap.size 85 92 i0 .nilIface 1 attrsKind HI.out hz0 hz1 .i64 .i64 n (by rw [hz2]; omega) (by unfold maxLen; omega) (Nat.le_refl _)
  have HB4 : Hid (Below W3.heap.size W3 W4) := Lib.hid ((Below.refl _ _).grown hgrow4 (Nat.le_refl _) (fun k e => by cases e))
  have HOWN4 := Lib.hid hown4
  have HM4 : Hid (MRow W4 w.heap.size nm .nilIface (.slice none 0 0)) := Lib.hid (HM3.out.below HB4.out HM3.out.lt)
  obtain ⟨m0, m1, m2⟩ := HM4.out.cells
  obtain ⟨f0, f1, f2⟩ := HM4.out.free
  have hsz4 := HB4.out.size
  have hg0L : gL < W3.heap.size := by omega
  have HSZ3 := Lib.hid hsz3
  clear hown4 hgrow4 hsz3
  generalize hg0 : W3.heap.size = g0 at *
  go_upto_region 13 with (fail)
  clear hmk m0 m1 m2 f0 f1 f2
  have HLS : Hid (LineSt w.heap.size w.heap.size gL 1 g0 n 0 nm (fun i => F.getD i ⟨#[]⟩) noAtt w (W4.setCell ⟨w.heap.size, 2, none⟩ (.slice (some ⟨g0, 0, none⟩) 0 n))) := Lib.hid (by
    refine ⟨⟨_, HM4.out.set2 _, ?_⟩, fun i hi => ?_, ?_, Nat.le_refl _, hord1, hg0L, by rw [size_setCell]; exact hsz4⟩
    · exact ownsRow_setCell_other HOWN4.out (a := ⟨w.heap.size, 2, none⟩) (fun e => by
        have : g0 = w.heap.size := by simpa [Value.ownBlock] using e
        omega) _
    · rw [World.cell?_setCell_other _ _ _ _ (fun e => by have := congrArg Addr.block e; dsimp only at this; omega), HB4.out.cell (p := ⟨gL, 1 + i, none⟩) hg0L]
      have := HST3.out (1 + i) (by omega)
      rw [this, Nat.add_comm 1 i]
      rfl
    · exact (HB3.out.trans (HB4.out.mono (by omega))).setCell (p := ⟨w.heap.size, 2, none⟩) (Nat.le_refl _) _)
  generalize W4.setCell ⟨w.heap.size, 2, none⟩ (.slice (some ⟨g0, 0, none⟩) 0 n) = W5 at HLS ⊢
  clear HOWN4 HM4 HB4 HM3 HST3 HB3 HSZ3 hsz4 hg0 HSZ1 HFN hgL2
  go_wp2
  go_loopw [7, 60] (fun er i wr => ∃ k : Nat, k < 1 ∧ er = .nilIface ∧ i = .int .i64 (k : Nat) ∧ LineSt w.heap.size w.heap.size gL 1 g0 n k nm (fun i => F.getD i ⟨#[]⟩) noAtt w wr) (fun _ i _ => n - (intOf i).toNat)
  case atStart => exact ⟨0, Nat.zero_lt_one, rfl, rfl, HLS.out⟩
  case round =>
    clear HLS
    obtain ⟨k, hk, rfl, rfl, hls⟩ := hrel
    have HLS := Lib.hid hls; clear hls
    have hlt : k < n := by omega
    · have hcell := HLS.out.strs k hlt
      have hltI : (k : Int) < n := by omega
      have HAK := Lib.hid (HATT.out k hlt)
      have HVK := Lib.hid (HVN.out k hlt)
      generalize hft : F.getD k ⟨#[]⟩ = t at hcell HAK HVK
      clear hft
      obtain ⟨ht1, ht2, hasc, hno, hn33, hn45⟩ := HAK.out
      obtain ⟨v0, hrow, hown⟩ := HLS.out.row
      obtain ⟨_, hmg, hgg, hg0⟩ := HLS.out.ord
      have HROW := Lib.hid hrow; have HOWN := Lib.hid hown
      have hb0 := bx_get t 0 (by omega)
      have hl0 : (0 : Int) < t.size := by omega
      go_upto_region 17 with (fail)
      have HX : Hid (Below wr.heap.size wr (wr.alloc (.cells #[.string t, .int .u8 1, .string ⟨#[]⟩] 127))) := Lib.hid ((Below.refl _ _).alloc (Nat.le_refl _) _)
      have HAR : Hid (ARow (wr.alloc (.cells #[.string t, .int .u8 1, .string ⟨#[]⟩] 127)) wr.heap.size (t, 1, ⟨#[]⟩)) := Lib.hid (heap_new wr _)
      generalize wr.alloc (.cells #[.string t, .int .u8 1, .string ⟨#[]⟩] 127) = X at HX HAR ⊢
      have hXl := HAR.out.lt
      obtain ⟨x0, x1, x2⟩ := HAR.out.cells
      dsimp only at x0 x1 x2
      clear hcell hrow hown
      have HPN := Lib.hid fun W => pair_no t W (by omega) hno
      generalize hc0 : bx t 0 = c0 at hb0 hn33 hn45
      have q1 : ((c0 : Int) == 33) = false := beq_eq_false_iff_ne.mpr (by omega)
      have q2 : ((c0 : Int) == 45) = false := beq_eq_false_iff_ne.mpr (by omega)
      clear hno hc0 hn33 hn45
      go_wp2_with fail
      clear x0 x1 x2
      with_reducible refine (HPN.out _).mono ?_
      rintro e Y ⟨pg, rfl, hb2⟩
      have HXY : Hid (Below wr.heap.size wr Y) := Lib.hid (HX.out.trans (hb2.mono HX.out.size))
      have HARY : Hid (ARow Y wr.heap.size (t, 1, ⟨#[]⟩)) := Lib.hid (HAR.out.below hb2 HAR.out.lt)
      clear hb2 HX HAR HPN
      obtain ⟨x0, x1, x2⟩ := HARY.out.cells
      dsimp only at x0 x1 x2
      go_wp2_with fail
      clear x0 x1 x2
      with_reducible refine (validName_any t Y (by omega) hasc).mono ?_
      rintro e Z ⟨rfl, hb9⟩
      rw [HVK.out]
      have HXZ : Hid (Below wr.heap.size wr Z) := Lib.hid (HXY.out.trans (hb9.mono HXY.out.size))
      have HMZ : Hid (MRow Z w.heap.size nm .nilIface v0) := Lib.hid (HROW.out.below HXZ.out HROW.out.lt)
      have HBZ : Hid (Below w.heap.size w Z) := Lib.hid (HLS.out.bel.trans (HXZ.out.mono HLS.out.bel.size))
      have hg := (HEV.out.below HBZ.out).var
      obtain ⟨m0, m1, m2⟩ := HMZ.out.cells
      obtain ⟨f0, f1, f2⟩ := HMZ.out.free
      clear hb9
      have hgl := HEV.out.lt.1
      have hgn : ¬ w.heap.size = 0 := by omega
      have hgm : ¬ 0 = w.heap.size := by omega
      rcases HOWN.out.2 with ⟨rfl, _⟩ | ⟨gq, cq, cur, rfl, _⟩
      · go_upto_region 27 with (fail)
        go_region
        all_goals
          go_wp2
          refine bodyPost_ret (v := .tuple #[.agg #[.string nm, .nilIface, .slice none 0 0], .iface 178 (.pointer (some a))]) ?_ rfl ⟨nm, none, 0, 0, rfl, ?_⟩
          · simp [results, Tryd.results40, go_sem, m0, m1, m2]
          · exact (((HBZ.out.setCell (p := ⟨w.heap.size, 0, none⟩) (Nat.le_refl _) _).setCell (p := ⟨w.heap.size, 1, none⟩) (Nat.le_refl _) _).setCell (p := ⟨w.heap.size, 2, none⟩) (Nat.le_refl _) _).drew
      · go_upto_region 27 with (fail)
        go_region
        all_goals
          go_wp2
          refine bodyPost_ret (v := .tuple #[.agg #[.string nm, .nilIface, .slice (some ⟨gq, 0, none⟩) k cq], .iface 178 (.pointer (some a))]) ?_ rfl ⟨nm, some ⟨gq, 0, none⟩, k, cq, rfl, ?_⟩
          · simp [results, Tryd.results40, go_sem, m0, m1, m2]
          · exact (((HBZ.out.setCell (p := ⟨w.heap.size, 0, none⟩) (Nat.le_refl _) _).setCell (p := ⟨w.heap.size, 1, none⟩) (Nat.le_refl _) _).setCell (p := ⟨w.heap.size, 2, none⟩) (Nat.le_refl _) _).drew

end Go.Proofs.YteipeagdflcjjaaDoor
