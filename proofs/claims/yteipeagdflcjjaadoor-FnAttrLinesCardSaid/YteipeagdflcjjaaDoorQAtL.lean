/- ParseAttributesLine, where every attribute is right and no macro stands. -/
import Derived.Test.YteipeagdflcjjaaDoorQAtP
namespace Go.Proofs.YteipeagdflcjjaaDoor
open Go.RowKit
set_option linter.unusedSimpArgs false
set_option linter.unusedVariables false

def attsV (att : Nat → AttrT) (k : Nat) : List Value := (List.range k).map fun i => attrV (att i)
theorem attsV_len (att : Nat → AttrT) (k : Nat) : (attsV att k).length = k := by unfold attsV; simp
theorem attsV_succ (att : Nat → AttrT) (k : Nat) : attsV att (k + 1) = attsV att k ++ [attrV (att k)] := by unfold attsV; rw [List.range_succ, List.map_append]; rfl
theorem news_att (w : World) (a : AttrT) : ∀ (j : Nat) (u : Value), [attrV a][j]? = some u → (w.alloc (.cells #[attrV a] 92)).cell? ((⟨w.heap.size, 0, none⟩ : Addr).add j) = some u := by
  intro j u hj
  match j, hj with
  | 0, hj =>
    simp at hj; subst hj
    exact World.cell?_alloc_mark w #[attrV a] 92 (0, 0) 0
theorem one_att (a : AttrT) : ∀ u ∈ [attrV a], u.oneCell' = true := by
  intro u hu; simp at hu; subst hu; rfl
/-- What stands at the head of the loop over the attributes. -/
structure LineSt (B mb gL o g0 n k : Nat) (nm : ByteArray) (f : Nat → ByteArray) (att : Nat → AttrT) (w wr : World) : Prop where
  row : ∃ v, MRow wr mb nm .nilIface v ∧ wr.ownsRow g0 92 1 v k (attsV att k)
  strs : ∀ i, i < n → wr.cell? ⟨gL, o + i, none⟩ = some (.string (f i))
  bel : Below B w wr
  ord : B ≤ mb ∧ mb < gL ∧ gL < g0 ∧ g0 ≤ wr.heap.size
def OkLine (nm : ByteArray) (n : Nat) (att : Nat → AttrT) (dv : Value) (w : World) (e : Ending) (w' : World) : Prop :=
  ∃ (pb : Nat) (v : Value), e = .returned (.tuple #[.agg #[.string nm, .iface 152 (.pointer (some ⟨pb, 0, none⟩)), v], .nilIface]) ∧ PatO w' w.heap.size pb dv (splitN (nb nm)) ∧
    w'.ownsRow w.heap.size 92 1 v n (attsV att n) ∧ Below w.heap.size w w'

set_option maxRecDepth 100000 in
set_option maxHeartbeats 8000000 in
theorem parseLine_any (s nm : ByteArray) (F : List ByteArray) (att : Nat → AttrT) (allow : Bool) (dA : Option Addr) (dn dc : Nat) (w : World)
    (hs : s.size ≤ 5000) (h1 : 1 ≤ s.size) (hb0 : 33 ≤ bx s 0 ∧ bx s 0 ≠ 34 ∧ bx s 0 ≠ 35) (hbl : 33 ≤ bx s (s.size - 1))
    (hF : fieldsN (nb s) = (nm :: F).map nb) (hF1 : 1 ≤ F.length) (hlen : F.length ≤ 20) (hnms : nm.size ≤ 1000) (hnm : pre nm ⟨#[91, 97, 116, 116, 114, 93]⟩ = false)
    (hatt : ∀ i, i < F.length → ReadAs (F.getD i ⟨#[]⟩) (att i)) (hvn : ∀ i, i < F.length → vname (att i).1 = true) :
    Calls Tryd.prog 40 #[.string s, .slice dA dn dc, .bool allow] w (OkLine nm F.length att (.slice dA dn dc) w) := by
  have HF := Lib.hid hF; have HATT := Lib.hid hatt; have HVN := Lib.hid hvn; have HNM := Lib.hid hnm
  clear hF hatt hvn hnm
  obtain ⟨i0, hi, hz0, hz1, hz2⟩ := info_parts attrInfo
  have HI := Lib.hid hi
  have hconv := Lib.run_convert_string_bytes (P := Tryd.prog) (w.alloc (.cells #[.string ⟨#[]⟩, .nilIface, .slice none 0 0] 87)) 9 99 5 s strKind bytesKind byteKind
  have HB0 : Hid (Below w.heap.size w (w.alloc (.cells #[.string ⟨#[]⟩, .nilIface, .slice none 0 0] 87))) := Lib.hid ((Below.refl _ _).alloc (Nat.le_refl _) _)
  have HM0 : Hid (MRow (w.alloc (.cells #[.string ⟨#[]⟩, .nilIface, .slice none 0 0] 87)) w.heap.size ⟨#[]⟩ .nilIface (.slice none 0 0)) := Lib.hid (heap_new w _)
  have hs0 : (w.alloc (.cells #[.string ⟨#[]⟩, .nilIface, .slice none 0 0] 87)).heap.size = w.heap.size + 1 := heap_new_size w _
  have HS0 := Lib.hid hs0
  go_enter Tryd.func40, Tryd.ntmps40
  go_upto_region 1 with (fail)
  generalize w.alloc (.cells #[.string ⟨#[]⟩, .nilIface, .slice none 0 0] 87) = W0 at hconv HB0 HM0 hs0 HS0 ⊢
  have HB1 := Lib.hid (bytesBelow W0 5 s)
  have HA1 := Lib.hid (bytesAt_new W0 5 s)
  have HS1 : Hid ((Lib.bytesWorld W0 5 s).heap.size = W0.heap.size + 1) := Lib.hid (by rw [Lib.bytesWorld_size])
  rw [hs0] at hconv
  clear hs0 hi
  go_wp2_with fail
  clear hconv
  generalize Lib.bytesWorld W0 5 s = W1 at HB1 HA1 HS1 ⊢
  generalize grownCap W0 s.size 0 5 = cap1
  have HTR := Lib.hid (atTrim_any (w.heap.size + 1) s.size cap1 (bx s 0) (bx s (s.size - 1)) W1 h1 (by omega) hb0.1 hbl (by rw [← HS0.out]; exact (HA1.out 0 (by omega)).1) (by rw [← HS0.out]; exact (HA1.out (s.size - 1) (by omega)).1))
  with_reducible refine HTR.out.mono ?_
  rintro e w' ⟨rfl, hw'⟩
  have hcv : (convert 99 9 (.slice (some ⟨w.heap.size + 1, 0, none⟩) s.size cap1)).run Tryd.prog W1 = .ok (.string (strOfNums ((List.range s.size).map fun j => (bx s j : Int)))) W1 :=
    BytesAt.str (b := w.heap.size + 1) (by rw [← HS0.out]; exact HA1.out) cap1
  have hrs : strOfNums ((List.range s.size).map fun j => (bx s j : Int)) = s := nb_inj (by
    have e : ((List.range s.size).map fun j => (bx s j : Int)) = (nb s).map fun c : Nat => (c : Int) := by
      refine List.ext_getElem (by simp [nb_length]) fun i h1 h2 => ?_
      simp [bx_getElem]
    rw [e, nb_strOfNums _ (fun c hc => nb_lt hc)])
  rw [hrs] at hcv
  clear hrs HTR
  have HB1w : Hid (Below w.heap.size w W1) := Lib.hid (HB0.out.trans (HB1.out.mono HB0.out.size))
  have HM1 : Hid (MRow W1 w.heap.size ⟨#[]⟩ .nilIface (.slice none 0 0)) := Lib.hid (HM0.out.below HB1.out HM0.out.lt)
  have hsz1 : w.heap.size + 2 = W1.heap.size := by rw [HS1.out, HS0.out]
  have HSZ1 := Lib.hid hsz1
  clear HA1 HB1 HB0 HM0 HS0 HS1 hsz1
  subst hw'
  go_wp2_with fail
  clear hcv
  have HP35 : Hid (pre s ⟨#[35]⟩ = false) := Lib.hid (by
    unfold pre
    rw [Bool.and_eq_false_iff]
    right
    rw [beq_eq_false_iff_ne]
    intro e
    have : nb (s.extract 0 (⟨#[35]⟩ : ByteArray).size) = [bx s 0] := by
      rw [nb_extract, List.drop_zero, show (⟨#[35]⟩ : ByteArray).size - 0 = 0 + 1 from rfl]
      have := drop_bx' s 0 (by omega)
      rw [List.drop_zero] at this
      exact this
    rw [this] at e
    have e2 : ([bx s 0] : List Nat) = [35] := e
    simp at e2
    exact hb0.2.2 e2)
  with_reducible refine (hasPrefix_any s _ _ (by unfold maxLen; omega) (by unfold maxLen; decide)).mono ?_
  rintro e w' ⟨rfl, hw'⟩
  rw [HP35.out]
  subst hw'
  clear HP35
  have hne : ((s.size : Int) == 0) = false := beq_eq_false_iff_ne.mpr (by omega)
  go_wp2_with fail
  with_reducible refine (unquote_any s _ h1 hb0.2.1).mono ?_
  rintro e w' ⟨rfl, hw'⟩
  subst hw'
  clear hne
  go_wp2_with fail
  with_reducible refine (zzFields_any s _ (by omega)).mono ?_
  rintro e w2 ⟨v, L, rfl, hown, hL, hb2⟩
  have HL : Hid (L = nm :: F) := Lib.hid ((List.map_inj_right (fun _ _ h => nb_inj h)).mp (hL.trans HF.out))
  obtain ⟨A, c, hv, hLm, hst⟩ := hown.strs
  subst hv
  have HL1 : Hid (L.length = F.length + 1) := Lib.hid (by rw [HL.out]; rfl)
  have hgl : ∃ gL, A = some ⟨gL, 0, none⟩ ∧ W1.heap.size ≤ gL ∧ gL < w2.heap.size ∧ L.length ≤ c ∧ c ≤ 9223372036854775807 := by
    rcases hown.2 with ⟨h, h0⟩ | ⟨g, cap, cur, hv, hg, hgg, hn, hm, _⟩
    · rw [HL1.out] at h0; omega
    · cases hv
      exact ⟨g, rfl, hg, (Array.getElem?_eq_some_iff.1 hgg).1, hn, Nat.le_trans hm (by unfold maxLen; omega)⟩
  obtain ⟨gL, rfl, hgL1, hgL2, hcL, hcm⟩ := hgl
  have HST : Hid (∀ i, i < F.length + 1 → w2.cell? ⟨gL, i, none⟩ = some (.string ((nm :: F).getD i ⟨#[]⟩))) := Lib.hid (fun i hi => by
    obtain ⟨b, off, e, _, hc⟩ := hst.at i (by rw [HL1.out]; exact hi)
    cases e
    rw [Nat.zero_add, HL.out] at hc
    exact hc)
  have HB2 : Hid (Below w.heap.size w w2) := Lib.hid (HB1w.out.trans (hb2.mono HB1w.out.size))
  have HM2 : Hid (MRow w2 w.heap.size ⟨#[]⟩ .nilIface (.slice none 0 0)) := Lib.hid (HM1.out.below hb2 (by rw [← HSZ1.out]; omega))
  have hcc := HST.out 0 (by omega)
  have hcc0 : w2.cell? ⟨gL, 0, none⟩ = some (.string nm) := hcc
  have hord1 : w.heap.size < gL := by have := HSZ1.out; omega
  rw [HL1.out] at hcL ⊢
  clear hown hL hb2 hst hLm HB1w HM1 HF hcc hgL1
  clear HL HL1
  generalize hFn : F.length = n at *
  have HFN := Lib.hid hFn; clear hFn
  have hz : ((0 : Int) == 0) = true := rfl
  have hn1 : (1 : Int) ≤ ((n + 1 : Nat) : Int) := by omega
  have hc1 : ¬ c = 1 := by omega
  have hcl : ((n : Int) + 1) ≤ c := by omega
  go_wp2_with fail
  with_reducible refine (checkMacro_no nm allow _ (by omega) HNM.out).mono ?_
  rintro e w' ⟨rfl, hw'⟩
  subst hw'
  obtain ⟨m0, m1, m2⟩ := HM2.out.cells
  obtain ⟨f0, f1, f2⟩ := HM2.out.free
  go_upto_region 12 with (fail)
  clear m0 m1 m2 f0 f1 f2
  have HM3 : Hid (MRow (w2.setCell ⟨w.heap.size, 0, none⟩ (.string nm)) w.heap.size nm .nilIface (.slice none 0 0)) := Lib.hid (HM2.out.set0 nm)
  have HST3 : Hid (∀ i, i < n + 1 → (w2.setCell ⟨w.heap.size, 0, none⟩ (.string nm)).cell? ⟨gL, i, none⟩ = some (.string ((nm :: F).getD i ⟨#[]⟩))) := Lib.hid fun i hi => by
    rw [World.cell?_setCell_other _ _ _ _ (fun e => by have := congrArg Addr.block e; dsimp only at this; omega)]
    exact HST.out i hi
  have HB3 : Hid (Below w.heap.size w (w2.setCell ⟨w.heap.size, 0, none⟩ (.string nm))) := Lib.hid (HB2.out.setCell (p := ⟨w.heap.size, 0, none⟩) (Nat.le_refl _) _)
  have hsz3 : (w2.setCell ⟨w.heap.size, 0, none⟩ (.string nm)).heap.size = w2.heap.size := size_setCell _ _ _
  generalize w2.setCell ⟨w.heap.size, 0, none⟩ (.string nm) = W3 at HM3 HST3 HB3 hsz3 ⊢
  clear hcc0 HM2 HST HB2
  obtain ⟨W4, hmk, hown4, hgrow4⟩ := run_make_own (P := Tryd.prog) W3 W3.heap.size 85 92 i0 .nilIface 1 attrsKind HI.out hz0 hz1 .i64 .i64 n (by rw [hz2]; omega) (by unfold maxLen; omega) (Nat.le_refl _)
  have HB4 : Hid (Below W3.heap.size W3 W4) := Lib.hid ((Below.refl _ _).grown hgrow4 (Nat.le_refl _) (fun k e => by cases e))
  have HOWN4 := Lib.hid hown4
  have HM4 : Hid (MRow W4 w.heap.size nm .nilIface (.slice none 0 0)) := Lib.hid (HM3.out.below HB4.out HM3.out.lt)
  obtain ⟨m0, m1, m2⟩ := HM4.out.cells
  obtain ⟨f0, f1, f2⟩ := HM4.out.free
  have hsz4 := HB4.out.size
  have hg0L : gL < W3.heap.size := by omega
  have HSZ3 := Lib.hid hsz3
  clear hown4 hgrow4 hsz3
  generalize hg0 : W3.heap.size = g0 at *
  go_upto_region 13 with (fail)
  clear hmk m0 m1 m2 f0 f1 f2
  have HLS : Hid (LineSt w.heap.size w.heap.size gL 1 g0 n 0 nm (fun i => F.getD i ⟨#[]⟩) att w (W4.setCell ⟨w.heap.size, 2, none⟩ (.slice (some ⟨g0, 0, none⟩) 0 n))) := Lib.hid (by
    refine ⟨⟨_, HM4.out.set2 _, ?_⟩, fun i hi => ?_, ?_, Nat.le_refl _, hord1, hg0L, by rw [size_setCell]; exact hsz4⟩
    · exact ownsRow_setCell_other HOWN4.out (a := ⟨w.heap.size, 2, none⟩) (fun e => by
        have : g0 = w.heap.size := by simpa [Value.ownBlock] using e
        omega) _
    · rw [World.cell?_setCell_other _ _ _ _ (fun e => by have := congrArg Addr.block e; dsimp only at this; omega), HB4.out.cell (p := ⟨gL, 1 + i, none⟩) hg0L]
      have := HST3.out (1 + i) (by omega)
      rw [this, Nat.add_comm 1 i]
      rfl
    · exact (HB3.out.trans (HB4.out.mono (by omega))).setCell (p := ⟨w.heap.size, 2, none⟩) (Nat.le_refl _) _)
  generalize W4.setCell ⟨w.heap.size, 2, none⟩ (.slice (some ⟨g0, 0, none⟩) 0 n) = W5 at HLS ⊢
  clear HOWN4 HM4 HB4 HM3 HST3 HB3 HSZ3 hsz4 hg0 HSZ1 HFN hgL2
  go_wp2
  go_loopw [7, 60] (fun er i wr => ∃ k : Nat, k ≤ n ∧ er = .nilIface ∧ i = .int .i64 (k : Nat) ∧ LineSt w.heap.size w.heap.size gL 1 g0 n k nm (fun i => F.getD i ⟨#[]⟩) att w wr) (fun _ i _ => n - (intOf i).toNat)
  case atStart => exact ⟨0, Nat.zero_le _, rfl, rfl, HLS.out⟩
  case round =>
    clear HLS
    obtain ⟨k, hk, rfl, rfl, hls⟩ := hrel
    have HLS := Lib.hid hls; clear hls
    by_cases hlt : k < n
    · have hcell := HLS.out.strs k hlt
      have hltI : (k : Int) < n := by omega
      have HAK := Lib.hid (HATT.out k hlt)
      have HVK := Lib.hid (HVN.out k hlt)
      generalize hft : F.getD k ⟨#[]⟩ = t at hcell HAK
      clear hft
      obtain ⟨ht1, ht2, hasc, hcase⟩ := HAK.out
      obtain ⟨v0, hrow, hown⟩ := HLS.out.row
      obtain ⟨_, hmg, hgg, hg0⟩ := HLS.out.ord
      have HROW := Lib.hid hrow; have HOWN := Lib.hid hown
      have hb0 := bx_get t 0 (by omega)
      have hl0 : (0 : Int) < t.size := by omega
      go_upto_region 17 with (fail)
      have HX : Hid (Below wr.heap.size wr (wr.alloc (.cells #[.string t, .int .u8 1, .string ⟨#[]⟩] 127))) := Lib.hid ((Below.refl _ _).alloc (Nat.le_refl _) _)
      have HAR : Hid (ARow (wr.alloc (.cells #[.string t, .int .u8 1, .string ⟨#[]⟩] 127)) wr.heap.size (t, 1, ⟨#[]⟩)) := Lib.hid (heap_new wr _)
      generalize wr.alloc (.cells #[.string t, .int .u8 1, .string ⟨#[]⟩] 127) = X at HX HAR ⊢
      have hXl := HAR.out.lt
      obtain ⟨x0, x1, x2⟩ := HAR.out.cells
      dsimp only at x0 x1 x2
      clear hcell hrow hown
      rcases hcase with ⟨m, hm, hno, hat, hn33, hn45, hak⟩ | ⟨hno, ⟨hpre, hak⟩ | ⟨hn33, hn45, hak⟩⟩
      · have HAKE := Lib.hid hak
        have HPY := Lib.hid (pair_yes t m X (by omega) hm hno hat)
        generalize hc0 : bx t 0 = c0 at hb0 hn33 hn45
        have q1 : ((c0 : Int) == 33) = false := beq_eq_false_iff_ne.mpr (by omega)
        have q2 : ((c0 : Int) == 45) = false := beq_eq_false_iff_ne.mpr (by omega)
        clear hno hat hak hc0 hn33 hn45
        go_wp2_with fail
        clear x0 x1 x2
        with_reducible refine HPY.out.mono ?_
        rintro e X2 ⟨pg, rfl, p0, p1, hb2⟩
        have HX2 : Hid (Below wr.heap.size wr X2) := Lib.hid (HX.out.trans (hb2.mono HX.out.size))
        have HAR2 : Hid (ARow X2 wr.heap.size (t, 1, ⟨#[]⟩)) := Lib.hid (HAR.out.below hb2 hXl)
        have hne : pg ≠ wr.heap.size := by
          intro e
          have := p0
          rw [e, HAR2.out.cells.1] at this
          have h2 := Option.some.inj this
          have h3 : t = t.extract 0 m := by injection h2
          have h4 := congrArg ByteArray.size h3
          rw [ByteArray.size_extract] at h4
          omega
        obtain ⟨x0, x1, x2⟩ := HAR2.out.cells
        obtain ⟨y0, y1, y2⟩ := HAR2.out.free
        dsimp only at x0 x1 x2
        clear hb2
        have HAR3 : Hid (ARow (((X2.setCell ⟨wr.heap.size, 0, none⟩ (.string (t.extract 0 m))).setCell ⟨wr.heap.size, 2, none⟩ (.string (t.extract (m + 1) t.size))).setCell ⟨wr.heap.size, 1, none⟩ (.int .u8 (61 : Nat))) wr.heap.size (t.extract 0 m, 61, t.extract (m + 1) t.size)) := Lib.hid (((HAR2.out.set0 _).set2 _).set1 _)
        have HX3 : Hid (Below wr.heap.size wr (((X2.setCell ⟨wr.heap.size, 0, none⟩ (.string (t.extract 0 m))).setCell ⟨wr.heap.size, 2, none⟩ (.string (t.extract (m + 1) t.size))).setCell ⟨wr.heap.size, 1, none⟩ (.int .u8 (61 : Nat)))) := Lib.hid (((HX2.out.setCell (p := ⟨wr.heap.size, 0, none⟩) (Nat.le_refl _) _).setCell (p := ⟨wr.heap.size, 2, none⟩) (Nat.le_refl _) _).setCell (p := ⟨wr.heap.size, 1, none⟩) (Nat.le_refl _) _)
        have HPC : Hid ((X2.setCell ⟨wr.heap.size, 0, none⟩ (.string (t.extract 0 m))).cell? ⟨pg, 1, none⟩ = some (.string (t.extract (m + 1) t.size))) := Lib.hid (by
          rw [World.cell?_setCell_other _ _ _ _ (fun e => hne (congrArg Addr.block e).symm)]; exact p1)
        have hpc := HPC.out
        go_upto_region 26 with (fail)
        clear x0 x1 x2 y0 y1 y2 p0 p1 hpc
        generalize ((X2.setCell ⟨wr.heap.size, 0, none⟩ (.string (t.extract 0 m))).setCell ⟨wr.heap.size, 2, none⟩ (.string (t.extract (m + 1) t.size))).setCell ⟨wr.heap.size, 1, none⟩ (.int .u8 (61 : Nat)) = Y at HAR3 HX3 ⊢
        have HARY := HAR3
        have HXY := HX3
        clear HAR3 HX3 HPC HAR2 HX2 HAR HX
        have HV : Hid (vname (t.extract 0 m) = true) := Lib.hid (by have := HVK.out; rwa [HAKE.out] at this)
        have hYl := HARY.out.lt
        obtain ⟨x0, x1, x2⟩ := HARY.out.cells
        dsimp only at x0 x1 x2
        go_wp2_with fail
        clear x0 x1 x2
        with_reducible refine (validName_any (t.extract 0 m) Y (extract_le _ _ _ _ (by omega)) (hasc.extract _ _)).mono ?_
        rintro e Z ⟨rfl, hb9⟩
        rw [HV.out]
        have HXZ : Hid (Below wr.heap.size wr Z) := Lib.hid (HXY.out.trans (hb9.mono HXY.out.size))
        have HARZ : Hid (ARow Z wr.heap.size ((t.extract 0 m), 61, t.extract (m + 1) t.size)) := Lib.hid (HARY.out.below hb9 hYl)
        have HMZ : Hid (MRow Z w.heap.size nm .nilIface v0) := Lib.hid (HROW.out.below HXZ.out HROW.out.lt)
        have HOZ : Hid (Z.ownsRow g0 92 1 v0 k (attsV att k)) := Lib.hid (ownsRow_belowG HOWN.out HXZ.out)
        obtain ⟨x0, x1, x2⟩ := HARZ.out.cells
        obtain ⟨m0, m1, m2⟩ := HMZ.out.cells
        obtain ⟨f0, f1, f2⟩ := HMZ.out.free
        dsimp only at x0 x1 x2
        have hZs := HXZ.out.size
        clear hb9
        go_wp2_with (at_builtin; refine wpList_append_lies _ rfl (.tmp 102) (.tmp 105) 85 rfl g0 92 i0 .nilIface 1 16 attrsKind HI.out hz0 hz1 hz2 rfl (by decide) _ k _ rfl (World.ownsRow.alloc HOZ.out _) ⟨Z.heap.size, 0, none⟩ 1 1 [attrV ((t.extract 0 m), 61, t.extract (m + 1) t.size)] rfl rfl (news_att _ _) (one_att _) (by decide) ?c3a ?c4a ?c5a _ rfl ?_)
        case c3a => unfold maxLen; omega
        case c4a => omega
        case c5a => first | omega | (rw [heap_new_size]; omega)
        intro gg cap2 w10 hown10 hgrow10 _ _
        have HO10 := Lib.hid hown10
        have hne10 : some w.heap.size ≠ v0.ownBlock := fun e => by have := (HOZ.out.lt _ e.symm).1; omega
        have hneL : some gL ≠ v0.ownBlock := fun e => by have := (HOZ.out.lt _ e.symm).1; omega
        have HBA : Hid (Below Z.heap.size Z (Z.alloc (.cells #[attrV ((t.extract 0 m), 61, t.extract (m + 1) t.size)] 92))) := Lib.hid ((Below.refl _ _).alloc (Nat.le_refl _) _)
        have hml : w.heap.size < Z.heap.size := by omega
        have hgL3 : gL < Z.heap.size := by omega
        have HM10 : Hid (MRow w10 w.heap.size nm .nilIface v0) := Lib.hid ((hgrow10.block w.heap.size (Nat.lt_of_lt_of_le hml HBA.out.size) hne10).trans ((HBA.out.block _ hml).trans HMZ.out))
        have HL10 : Hid (∀ i, i < n → w10.cell? ⟨gL, 1 + i, none⟩ = some (.string (F.getD i ⟨#[]⟩))) := Lib.hid fun i hi => by
          have h1 := (HXZ.out.cell (p := ⟨gL, 1 + i, none⟩) (show gL < wr.heap.size by omega)).trans (HLS.out.strs i hi)
          have e : w10.heap[gL]? = Z.heap[gL]? := (hgrow10.block gL (Nat.lt_of_lt_of_le hgL3 HBA.out.size) hneL).trans (HBA.out.block gL hgL3)
          unfold World.cell? at h1 ⊢
          rw [e]
          exact h1
        have HB10 : Hid (Below w.heap.size w w10) := Lib.hid (((HLS.out.bel.trans (HXZ.out.mono HLS.out.bel.size)).trans (HBA.out.mono (by omega))).grown hgrow10 (Nat.le_trans (show w.heap.size ≤ Z.heap.size by omega) HBA.out.size) (fun q e => by have := (HOZ.out.lt q e).1; omega))
        have hs10 : Z.heap.size ≤ w10.heap.size := Nat.le_trans HBA.out.size hgrow10.size
        obtain ⟨d0, d1, d2⟩ := HM10.out.cells
        obtain ⟨g0', g1', g2'⟩ := HM10.out.free
        clear hown10 hgrow10 x0 x1 x2 m0 m1 m2 f0 f1 f2 hYl
        have HFIN : Hid (LineSt w.heap.size w.heap.size gL 1 g0 n (k + 1) nm (fun i => F.getD i ⟨#[]⟩) att w (w10.setCell ⟨w.heap.size, 2, none⟩ (.slice (some ⟨gg, 0, none⟩) (k + 1) cap2))) := Lib.hid (by
          refine ⟨⟨_, HM10.out.set2 _, ?_⟩, fun i hi => ?_, ?_, Nat.le_refl _, hmg, hgg, by rw [size_setCell]; omega⟩
          · rw [attsV_succ, HAKE.out]
            exact ownsRow_setCell_other HO10.out (a := ⟨w.heap.size, 2, none⟩) (fun e => by have := (HO10.out.lt _ e).1; dsimp only at this; omega) _
          · rw [World.cell?_setCell_other _ _ _ _ (fun e => by have := congrArg Addr.block e; dsimp only at this; omega)]
            exact HL10.out i hi
          · exact HB10.out.setCell (p := ⟨w.heap.size, 2, none⟩) (Nat.le_refl _) _)
        go_wp2
        go_roundw
        case rel => exact ⟨k + 1, by omega, rfl, by go_num, HFIN.out⟩
        case measure => simp [intOf]; omega
      · have HAKE := Lib.hid hak
        have HPN := Lib.hid fun W => pair_no t W (by omega) hno
        generalize hc0 : bx t 0 = c0 at hb0 hpre HAKE
        have hpos1 : (1 : Int) ≤ t.size := by omega
        obtain ⟨y0, y1, y2⟩ := HAR.out.free
        have HAR3 : Hid (ARow ((X.setCell ⟨wr.heap.size, 1, none⟩ (.int .u8 (c0 : Nat))).setCell ⟨wr.heap.size, 0, none⟩ (.string (t.extract 1 t.size))) wr.heap.size (t.extract 1 t.size, c0, ⟨#[]⟩)) := Lib.hid ((HAR.out.set1 _).set0 _)
        have HX3 : Hid (Below wr.heap.size wr ((X.setCell ⟨wr.heap.size, 1, none⟩ (.int .u8 (c0 : Nat))).setCell ⟨wr.heap.size, 0, none⟩ (.string (t.extract 1 t.size)))) := Lib.hid ((HX.out.setCell (p := ⟨wr.heap.size, 1, none⟩) (Nat.le_refl _) _).setCell (p := ⟨wr.heap.size, 0, none⟩) (Nat.le_refl _) _)
        have hq : ((c0 : Int) == 33) = true ∨ (((c0 : Int) == 33) = false ∧ ((c0 : Int) == 45) = true) := by
          rcases hpre with h | h
          · exact .inl (beq_iff_eq.mpr (by omega))
          · exact .inr ⟨beq_eq_false_iff_ne.mpr (by omega), beq_iff_eq.mpr (by omega)⟩
        clear hno hak hc0 hpre
        have HPN2 : Hid (Calls Tryd.prog 60 #[.string t] ((X.setCell ⟨wr.heap.size, 1, none⟩ (.int .u8 (c0 : Nat))).setCell ⟨wr.heap.size, 0, none⟩ (.string (t.extract 1 t.size))) (PairNo t ((X.setCell ⟨wr.heap.size, 1, none⟩ (.int .u8 (c0 : Nat))).setCell ⟨wr.heap.size, 0, none⟩ (.string (t.extract 1 t.size))))) := Lib.hid (HPN.out _)
        clear HPN
        rcases hq with hq | ⟨hq1, hq⟩
        · go_wp2_with fail
          clear x0 x1 x2 y0 y1 y2
          with_reducible refine HPN2.out.mono ?_
          rintro e Y ⟨pg, rfl, hb2⟩
          have HXY : Hid (Below wr.heap.size wr Y) := Lib.hid (HX3.out.trans (hb2.mono HX3.out.size))
          have HARY : Hid (ARow Y wr.heap.size (t.extract 1 t.size, c0, ⟨#[]⟩)) := Lib.hid (HAR3.out.below hb2 HAR3.out.lt)
          clear hb2 HX HAR HPN2 HAR3 HX3
          have HV : Hid (vname (t.extract 1 t.size) = true) := Lib.hid (by have := HVK.out; rwa [HAKE.out] at this)
          have hYl := HARY.out.lt
          obtain ⟨x0, x1, x2⟩ := HARY.out.cells
          dsimp only at x0 x1 x2
          go_wp2_with fail
          clear x0 x1 x2
          with_reducible refine (validName_any (t.extract 1 t.size) Y (extract_le _ _ _ _ (by omega)) (hasc.extract _ _)).mono ?_
          rintro e Z ⟨rfl, hb9⟩
          rw [HV.out]
          have HXZ : Hid (Below wr.heap.size wr Z) := Lib.hid (HXY.out.trans (hb9.mono HXY.out.size))
          have HARZ : Hid (ARow Z wr.heap.size ((t.extract 1 t.size), c0, ⟨#[]⟩)) := Lib.hid (HARY.out.below hb9 hYl)
          have HMZ : Hid (MRow Z w.heap.size nm .nilIface v0) := Lib.hid (HROW.out.below HXZ.out HROW.out.lt)
          have HOZ : Hid (Z.ownsRow g0 92 1 v0 k (attsV att k)) := Lib.hid (ownsRow_belowG HOWN.out HXZ.out)
          obtain ⟨x0, x1, x2⟩ := HARZ.out.cells
          obtain ⟨m0, m1, m2⟩ := HMZ.out.cells
          obtain ⟨f0, f1, f2⟩ := HMZ.out.free
          dsimp only at x0 x1 x2
          have hZs := HXZ.out.size
          clear hb9
          go_wp2_with (at_builtin; refine wpList_append_lies _ rfl (.tmp 102) (.tmp 105) 85 rfl g0 92 i0 .nilIface 1 16 attrsKind HI.out hz0 hz1 hz2 rfl (by decide) _ k _ rfl (World.ownsRow.alloc HOZ.out _) ⟨Z.heap.size, 0, none⟩ 1 1 [attrV ((t.extract 1 t.size), c0, ⟨#[]⟩)] rfl rfl (news_att _ _) (one_att _) (by decide) ?c3b ?c4b ?c5b _ rfl ?_)
          case c3b => unfold maxLen; omega
          case c4b => omega
          case c5b => first | omega | (rw [heap_new_size]; omega)
          intro gg cap2 w10 hown10 hgrow10 _ _
          have HO10 := Lib.hid hown10
          have hne10 : some w.heap.size ≠ v0.ownBlock := fun e => by have := (HOZ.out.lt _ e.symm).1; omega
          have hneL : some gL ≠ v0.ownBlock := fun e => by have := (HOZ.out.lt _ e.symm).1; omega
          have HBA : Hid (Below Z.heap.size Z (Z.alloc (.cells #[attrV ((t.extract 1 t.size), c0, ⟨#[]⟩)] 92))) := Lib.hid ((Below.refl _ _).alloc (Nat.le_refl _) _)
          have hml : w.heap.size < Z.heap.size := by omega
          have hgL3 : gL < Z.heap.size := by omega
          have HM10 : Hid (MRow w10 w.heap.size nm .nilIface v0) := Lib.hid ((hgrow10.block w.heap.size (Nat.lt_of_lt_of_le hml HBA.out.size) hne10).trans ((HBA.out.block _ hml).trans HMZ.out))
          have HL10 : Hid (∀ i, i < n → w10.cell? ⟨gL, 1 + i, none⟩ = some (.string (F.getD i ⟨#[]⟩))) := Lib.hid fun i hi => by
            have h1 := (HXZ.out.cell (p := ⟨gL, 1 + i, none⟩) (show gL < wr.heap.size by omega)).trans (HLS.out.strs i hi)
            have e : w10.heap[gL]? = Z.heap[gL]? := (hgrow10.block gL (Nat.lt_of_lt_of_le hgL3 HBA.out.size) hneL).trans (HBA.out.block gL hgL3)
            unfold World.cell? at h1 ⊢
            rw [e]
            exact h1
          have HB10 : Hid (Below w.heap.size w w10) := Lib.hid (((HLS.out.bel.trans (HXZ.out.mono HLS.out.bel.size)).trans (HBA.out.mono (by omega))).grown hgrow10 (Nat.le_trans (show w.heap.size ≤ Z.heap.size by omega) HBA.out.size) (fun q e => by have := (HOZ.out.lt q e).1; omega))
          have hs10 : Z.heap.size ≤ w10.heap.size := Nat.le_trans HBA.out.size hgrow10.size
          obtain ⟨d0, d1, d2⟩ := HM10.out.cells
          obtain ⟨g0', g1', g2'⟩ := HM10.out.free
          clear hown10 hgrow10 x0 x1 x2 m0 m1 m2 f0 f1 f2 hYl
          have HFIN : Hid (LineSt w.heap.size w.heap.size gL 1 g0 n (k + 1) nm (fun i => F.getD i ⟨#[]⟩) att w (w10.setCell ⟨w.heap.size, 2, none⟩ (.slice (some ⟨gg, 0, none⟩) (k + 1) cap2))) := Lib.hid (by
            refine ⟨⟨_, HM10.out.set2 _, ?_⟩, fun i hi => ?_, ?_, Nat.le_refl _, hmg, hgg, by rw [size_setCell]; omega⟩
            · rw [attsV_succ, HAKE.out]
              exact ownsRow_setCell_other HO10.out (a := ⟨w.heap.size, 2, none⟩) (fun e => by have := (HO10.out.lt _ e).1; dsimp only at this; omega) _
            · rw [World.cell?_setCell_other _ _ _ _ (fun e => by have := congrArg Addr.block e; dsimp only at this; omega)]
              exact HL10.out i hi
            · exact HB10.out.setCell (p := ⟨w.heap.size, 2, none⟩) (Nat.le_refl _) _)
          go_wp2
          go_roundw
          case rel => exact ⟨k + 1, by omega, rfl, by go_num, HFIN.out⟩
          case measure => simp [intOf]; omega
        · go_wp2_with fail
          clear x0 x1 x2 y0 y1 y2
          with_reducible refine HPN2.out.mono ?_
          rintro e Y ⟨pg, rfl, hb2⟩
          have HXY : Hid (Below wr.heap.size wr Y) := Lib.hid (HX3.out.trans (hb2.mono HX3.out.size))
          have HARY : Hid (ARow Y wr.heap.size (t.extract 1 t.size, c0, ⟨#[]⟩)) := Lib.hid (HAR3.out.below hb2 HAR3.out.lt)
          clear hb2 HX HAR HPN2 HAR3 HX3
          have HV : Hid (vname (t.extract 1 t.size) = true) := Lib.hid (by have := HVK.out; rwa [HAKE.out] at this)
          have hYl := HARY.out.lt
          obtain ⟨x0, x1, x2⟩ := HARY.out.cells
          dsimp only at x0 x1 x2
          go_wp2_with fail
          clear x0 x1 x2
          with_reducible refine (validName_any (t.extract 1 t.size) Y (extract_le _ _ _ _ (by omega)) (hasc.extract _ _)).mono ?_
          rintro e Z ⟨rfl, hb9⟩
          rw [HV.out]
          have HXZ : Hid (Below wr.heap.size wr Z) := Lib.hid (HXY.out.trans (hb9.mono HXY.out.size))
          have HARZ : Hid (ARow Z wr.heap.size ((t.extract 1 t.size), c0, ⟨#[]⟩)) := Lib.hid (HARY.out.below hb9 hYl)
          have HMZ : Hid (MRow Z w.heap.size nm .nilIface v0) := Lib.hid (HROW.out.below HXZ.out HROW.out.lt)
          have HOZ : Hid (Z.ownsRow g0 92 1 v0 k (attsV att k)) := Lib.hid (ownsRow_belowG HOWN.out HXZ.out)
          obtain ⟨x0, x1, x2⟩ := HARZ.out.cells
          obtain ⟨m0, m1, m2⟩ := HMZ.out.cells
          obtain ⟨f0, f1, f2⟩ := HMZ.out.free
          dsimp only at x0 x1 x2
          have hZs := HXZ.out.size
          clear hb9
          go_wp2_with (at_builtin; refine wpList_append_lies _ rfl (.tmp 102) (.tmp 105) 85 rfl g0 92 i0 .nilIface 1 16 attrsKind HI.out hz0 hz1 hz2 rfl (by decide) _ k _ rfl (World.ownsRow.alloc HOZ.out _) ⟨Z.heap.size, 0, none⟩ 1 1 [attrV ((t.extract 1 t.size), c0, ⟨#[]⟩)] rfl rfl (news_att _ _) (one_att _) (by decide) ?c3d ?c4d ?c5d _ rfl ?_)
          case c3d => unfold maxLen; omega
          case c4d => omega
          case c5d => first | omega | (rw [heap_new_size]; omega)
          intro gg cap2 w10 hown10 hgrow10 _ _
          have HO10 := Lib.hid hown10
          have hne10 : some w.heap.size ≠ v0.ownBlock := fun e => by have := (HOZ.out.lt _ e.symm).1; omega
          have hneL : some gL ≠ v0.ownBlock := fun e => by have := (HOZ.out.lt _ e.symm).1; omega
          have HBA : Hid (Below Z.heap.size Z (Z.alloc (.cells #[attrV ((t.extract 1 t.size), c0, ⟨#[]⟩)] 92))) := Lib.hid ((Below.refl _ _).alloc (Nat.le_refl _) _)
          have hml : w.heap.size < Z.heap.size := by omega
          have hgL3 : gL < Z.heap.size := by omega
          have HM10 : Hid (MRow w10 w.heap.size nm .nilIface v0) := Lib.hid ((hgrow10.block w.heap.size (Nat.lt_of_lt_of_le hml HBA.out.size) hne10).trans ((HBA.out.block _ hml).trans HMZ.out))
          have HL10 : Hid (∀ i, i < n → w10.cell? ⟨gL, 1 + i, none⟩ = some (.string (F.getD i ⟨#[]⟩))) := Lib.hid fun i hi => by
            have h1 := (HXZ.out.cell (p := ⟨gL, 1 + i, none⟩) (show gL < wr.heap.size by omega)).trans (HLS.out.strs i hi)
            have e : w10.heap[gL]? = Z.heap[gL]? := (hgrow10.block gL (Nat.lt_of_lt_of_le hgL3 HBA.out.size) hneL).trans (HBA.out.block gL hgL3)
            unfold World.cell? at h1 ⊢
            rw [e]
            exact h1
          have HB10 : Hid (Below w.heap.size w w10) := Lib.hid (((HLS.out.bel.trans (HXZ.out.mono HLS.out.bel.size)).trans (HBA.out.mono (by omega))).grown hgrow10 (Nat.le_trans (show w.heap.size ≤ Z.heap.size by omega) HBA.out.size) (fun q e => by have := (HOZ.out.lt q e).1; omega))
          have hs10 : Z.heap.size ≤ w10.heap.size := Nat.le_trans HBA.out.size hgrow10.size
          obtain ⟨d0, d1, d2⟩ := HM10.out.cells
          obtain ⟨g0', g1', g2'⟩ := HM10.out.free
          clear hown10 hgrow10 x0 x1 x2 m0 m1 m2 f0 f1 f2 hYl
          have HFIN : Hid (LineSt w.heap.size w.heap.size gL 1 g0 n (k + 1) nm (fun i => F.getD i ⟨#[]⟩) att w (w10.setCell ⟨w.heap.size, 2, none⟩ (.slice (some ⟨gg, 0, none⟩) (k + 1) cap2))) := Lib.hid (by
            refine ⟨⟨_, HM10.out.set2 _, ?_⟩, fun i hi => ?_, ?_, Nat.le_refl _, hmg, hgg, by rw [size_setCell]; omega⟩
            · rw [attsV_succ, HAKE.out]
              exact ownsRow_setCell_other HO10.out (a := ⟨w.heap.size, 2, none⟩) (fun e => by have := (HO10.out.lt _ e).1; dsimp only at this; omega) _
            · rw [World.cell?_setCell_other _ _ _ _ (fun e => by have := congrArg Addr.block e; dsimp only at this; omega)]
              exact HL10.out i hi
            · exact HB10.out.setCell (p := ⟨w.heap.size, 2, none⟩) (Nat.le_refl _) _)
          go_wp2
          go_roundw
          case rel => exact ⟨k + 1, by omega, rfl, by go_num, HFIN.out⟩
          case measure => simp [intOf]; omega
      · have HAKE := Lib.hid hak
        have HPN := Lib.hid (pair_no t X (by omega) hno)
        generalize hc0 : bx t 0 = c0 at hb0 hn33 hn45
        have q1 : ((c0 : Int) == 33) = false := beq_eq_false_iff_ne.mpr (by omega)
        have q2 : ((c0 : Int) == 45) = false := beq_eq_false_iff_ne.mpr (by omega)
        clear hno hak hc0 hn33 hn45
        go_wp2_with fail
        clear x0 x1 x2
        with_reducible refine HPN.out.mono ?_
        rintro e Y ⟨pg, rfl, hb2⟩
        have HXY : Hid (Below wr.heap.size wr Y) := Lib.hid (HX.out.trans (hb2.mono HX.out.size))
        have HARY : Hid (ARow Y wr.heap.size (t, 1, ⟨#[]⟩)) := Lib.hid (HAR.out.below hb2 hXl)
        clear hb2 HX HAR
        have HV : Hid (vname t = true) := Lib.hid (by have := HVK.out; rwa [HAKE.out] at this)
        have hYl := HARY.out.lt
        obtain ⟨x0, x1, x2⟩ := HARY.out.cells
        dsimp only at x0 x1 x2
        go_wp2_with fail
        clear x0 x1 x2
        with_reducible refine (validName_any t Y (by omega) hasc).mono ?_
        rintro e Z ⟨rfl, hb9⟩
        rw [HV.out]
        have HXZ : Hid (Below wr.heap.size wr Z) := Lib.hid (HXY.out.trans (hb9.mono HXY.out.size))
        have HARZ : Hid (ARow Z wr.heap.size (t, 1, ⟨#[]⟩)) := Lib.hid (HARY.out.below hb9 hYl)
        have HMZ : Hid (MRow Z w.heap.size nm .nilIface v0) := Lib.hid (HROW.out.below HXZ.out HROW.out.lt)
        have HOZ : Hid (Z.ownsRow g0 92 1 v0 k (attsV att k)) := Lib.hid (ownsRow_belowG HOWN.out HXZ.out)
        obtain ⟨x0, x1, x2⟩ := HARZ.out.cells
        obtain ⟨m0, m1, m2⟩ := HMZ.out.cells
        obtain ⟨f0, f1, f2⟩ := HMZ.out.free
        dsimp only at x0 x1 x2
        have hZs := HXZ.out.size
        clear hb9
        go_wp2_with (at_builtin; refine wpList_append_lies _ rfl (.tmp 102) (.tmp 105) 85 rfl g0 92 i0 .nilIface 1 16 attrsKind HI.out hz0 hz1 hz2 rfl (by decide) _ k _ rfl (World.ownsRow.alloc HOZ.out _) ⟨Z.heap.size, 0, none⟩ 1 1 [attrV (t, 1, ⟨#[]⟩)] rfl rfl (news_att _ _) (one_att _) (by decide) ?c3c ?c4c ?c5c _ rfl ?_)
        case c3c => unfold maxLen; omega
        case c4c => omega
        case c5c => first | omega | (rw [heap_new_size]; omega)
        intro gg cap2 w10 hown10 hgrow10 _ _
        have HO10 := Lib.hid hown10
        have hne10 : some w.heap.size ≠ v0.ownBlock := fun e => by have := (HOZ.out.lt _ e.symm).1; omega
        have hneL : some gL ≠ v0.ownBlock := fun e => by have := (HOZ.out.lt _ e.symm).1; omega
        have HBA : Hid (Below Z.heap.size Z (Z.alloc (.cells #[attrV (t, 1, ⟨#[]⟩)] 92))) := Lib.hid ((Below.refl _ _).alloc (Nat.le_refl _) _)
        have hml : w.heap.size < Z.heap.size := by omega
        have hgL3 : gL < Z.heap.size := by omega
        have HM10 : Hid (MRow w10 w.heap.size nm .nilIface v0) := Lib.hid ((hgrow10.block w.heap.size (Nat.lt_of_lt_of_le hml HBA.out.size) hne10).trans ((HBA.out.block _ hml).trans HMZ.out))
        have HL10 : Hid (∀ i, i < n → w10.cell? ⟨gL, 1 + i, none⟩ = some (.string (F.getD i ⟨#[]⟩))) := Lib.hid fun i hi => by
          have h1 := (HXZ.out.cell (p := ⟨gL, 1 + i, none⟩) (show gL < wr.heap.size by omega)).trans (HLS.out.strs i hi)
          have e : w10.heap[gL]? = Z.heap[gL]? := (hgrow10.block gL (Nat.lt_of_lt_of_le hgL3 HBA.out.size) hneL).trans (HBA.out.block gL hgL3)
          unfold World.cell? at h1 ⊢
          rw [e]
          exact h1
        have HB10 : Hid (Below w.heap.size w w10) := Lib.hid (((HLS.out.bel.trans (HXZ.out.mono HLS.out.bel.size)).trans (HBA.out.mono (by omega))).grown hgrow10 (Nat.le_trans (show w.heap.size ≤ Z.heap.size by omega) HBA.out.size) (fun q e => by have := (HOZ.out.lt q e).1; omega))
        have hs10 : Z.heap.size ≤ w10.heap.size := Nat.le_trans HBA.out.size hgrow10.size
        obtain ⟨d0, d1, d2⟩ := HM10.out.cells
        obtain ⟨g0', g1', g2'⟩ := HM10.out.free
        clear hown10 hgrow10 x0 x1 x2 m0 m1 m2 f0 f1 f2 hYl
        have HFIN : Hid (LineSt w.heap.size w.heap.size gL 1 g0 n (k + 1) nm (fun i => F.getD i ⟨#[]⟩) att w (w10.setCell ⟨w.heap.size, 2, none⟩ (.slice (some ⟨gg, 0, none⟩) (k + 1) cap2))) := Lib.hid (by
          refine ⟨⟨_, HM10.out.set2 _, ?_⟩, fun i hi => ?_, ?_, Nat.le_refl _, hmg, hgg, by rw [size_setCell]; omega⟩
          · rw [attsV_succ, HAKE.out]
            exact ownsRow_setCell_other HO10.out (a := ⟨w.heap.size, 2, none⟩) (fun e => by have := (HO10.out.lt _ e).1; dsimp only at this; omega) _
          · rw [World.cell?_setCell_other _ _ _ _ (fun e => by have := congrArg Addr.block e; dsimp only at this; omega)]
            exact HL10.out i hi
          · exact HB10.out.setCell (p := ⟨w.heap.size, 2, none⟩) (Nat.le_refl _) _)
        go_wp2
        go_roundw
        case rel => exact ⟨k + 1, by omega, rfl, by go_num, HFIN.out⟩
        case measure => simp [intOf]; omega
    · obtain rfl : k = n := by omega
      obtain ⟨v0, hrow, hown⟩ := HLS.out.row
      have HROW := Lib.hid hrow; have HOWN := Lib.hid hown
      have HORD := Lib.hid HLS.out.ord
      clear hrow hown
      go_wp2_with fail
      with_reducible refine (atParse_any nm dA dn dc wr (by omega)).mono ?_
      rintro e W9 ⟨pb, rfl, hpb, hpl, hpo, hb9⟩
      have HM9 : Hid (MRow W9 w.heap.size nm .nilIface v0) := Lib.hid (HROW.out.below hb9 HROW.out.lt)
      have HO9 : Hid (W9.ownsRow g0 92 1 v0 k (attsV att k)) := Lib.hid (ownsRow_belowG HOWN.out hb9)
      have HPO := Lib.hid hpo
      have HB9 : Hid (Below w.heap.size w W9) := Lib.hid (HLS.out.bel.trans (hb9.mono HLS.out.bel.size))
      have HPB : Hid (w.heap.size < pb) := Lib.hid (by have := HORD.out; omega)
      obtain ⟨m0, m1, m2⟩ := HM9.out.cells
      obtain ⟨f0, f1, f2⟩ := HM9.out.free
      clear hb9 hpo hpb
      have HM10 : Hid (MRow (W9.setCell ⟨w.heap.size, 1, none⟩ (.iface 152 (.pointer (some ⟨pb, 0, none⟩)))) w.heap.size nm (.iface 152 (.pointer (some ⟨pb, 0, none⟩))) v0) := Lib.hid (HM9.out.set1 _)
      obtain ⟨r0, r1, r2⟩ := HM10.out.cells
      go_wp2
      refine bodyPost_ret (v := .tuple #[.agg #[.string nm, .iface 152 (.pointer (some ⟨pb, 0, none⟩)), v0], .nilIface]) ?_ rfl ⟨pb, v0, rfl, ?_, ?_, ?_⟩
      · simp [results, Tryd.results40, go_sem, r0, r1, r2]
      · exact (HPO.out.set (by have := HORD.out; omega) _).mono (by have := HORD.out; omega)
      · exact ownsRow_baseG (ownsRow_setCell_other HO9.out (a := ⟨w.heap.size, 1, none⟩) (fun e => by have h := (HO9.out.lt _ e).1; have h2 := HORD.out; dsimp only at h; omega) _) (by have := HORD.out; omega)
      · exact HB9.out.setCell (p := ⟨w.heap.size, 1, none⟩) (Nat.le_refl _) _
end Go.Proofs.YteipeagdflcjjaaDoor
