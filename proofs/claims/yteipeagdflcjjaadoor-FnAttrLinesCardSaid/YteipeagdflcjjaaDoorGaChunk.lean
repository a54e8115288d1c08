/- zzChunk of gitattributes: the same walk as gitignore's. -/
import Derived.Test.YteipeagdflcjjaaDoorChunk
import Derived.Test.YteipeagdflcjjaaDoorGaRune
namespace Go.Proofs.YteipeagdflcjjaaDoor.Ga
open Go.RowKit
set_option linter.unusedSimpArgs false
set_option linter.unusedVariables false
set_option maxRecDepth 100000 in
set_option maxHeartbeats 4000000 in
theorem zzChunk_any (T : List Tok) (cb0 sb0 : ByteArray) (w : World) (h0 : ChSt (chM T (nb sb0)) T cb0 sb0 false) :
    Calls Tryd.prog 139 #[.string cb0, .string sb0] w (ChunkPost T sb0 w) := by
  have H0 := Lib.hid h0; clear h0
  go_enter Tryd.func139, Tryd.ntmps139
  go_wp2
  go_loopw [0, 1, 7] (fun c s f wr => ∃ T' cb sb fl, c = .string cb ∧ s = .string sb ∧ f = .bool fl ∧ ChSt (chM T (nb sb0)) T' cb sb fl ∧ Below w.heap.size w wr) (fun c _ _ _ => (strOf c).size)
  case atStart => exact ⟨T, cb0, sb0, false, rfl, rfl, rfl, H0.out, Below.refl _ _⟩
  case round =>
    obtain ⟨T', cb, sb, fl, rfl, rfl, rfl, hst, hbel⟩ := hrel
    have HST := Lib.hid hst; clear hst
    have HB := Lib.hid hbel; clear hbel
    cases T' with
    | nil =>
      have hz : cb.size = 0 := size_nil HST.out.text
      have HR := Lib.hid HST.out.res
      cases fl with
      | true =>
        go_wp2
        go_ret3
        exact ⟨HB.out, .inl ⟨HR.out, rfl⟩⟩
      | false =>
        go_wp2
        go_ret3
        exact ⟨HB.out, .inr ⟨sb, HR.out, HST.out.asc, HST.out.ss, rfl⟩⟩
    | cons t r =>
      have hcs : 1 ≤ cb.size := by
        rw [← nb_length, HST.out.text, texts_cons, List.length_append]
        have := List.length_pos_iff.mpr (text_ne t)
        omega
      have hcs2 := HST.out.cs
      have hss2 := HST.out.ss
      go_upto_region 3 with (fail)
      go_cut [7] (fun v wx => ∃ f2 : Bool, v = .bool f2 ∧ ChSt (chM T (nb sb0)) (t :: r) cb sb f2 ∧ (f2 = false → 1 ≤ sb.size) ∧ Below w.heap.size w wx)
      case first =>
        cases fl with
        | true =>
          go_wp2
          go_meet
          case rel => exact ⟨true, rfl, HST.out, fun h => (by cases h), HB.out⟩
        | false =>
          by_cases hse : sb.size = 0
          · have e1 : ((sb.size : Int) == 0) = true := by rw [hse]; rfl
            have HSE := Lib.hid hse; clear hse
            go_wp2
            go_meet
            case rel => exact ⟨true, rfl, ⟨HST.out.text, HST.out.good, HST.out.asc, HST.out.cs, HST.out.ss, by rw [HST.out.res]; unfold chRes; rw [if_neg (by decide), if_pos rfl, nb_nil HSE.out]; rfl⟩, fun h => (by cases h), HB.out⟩
          · have e1 : ((sb.size : Int) == 0) = false := beq_eq_false_iff_ne.mpr (by omega)
            go_wp2
            go_meet
            case rel => exact ⟨false, rfl, HST.out, fun _ => by omega, HB.out⟩
      case rest =>
        clear HST HB
        obtain ⟨f2, rfl, hst, hf2, hbel⟩ := hcut
        have HST := Lib.hid hst; clear hst
        have HB := Lib.hid hbel; clear hbel
        have HF := Lib.hid hf2; clear hf2
        have hb := bx_get cb 0 (by omega)
        have htx := HST.out.text
        rw [texts_cons] at htx
        have hts : (cb.extract 1 cb.size).size = cb.size - 1 := size_tail cb 1
        have hts2 : (sb.extract 1 sb.size).size = sb.size - 1 := size_tail sb 1
        obtain ⟨hg, hstar⟩ := HST.out.good t (by simp)
        cases t with
        | star => cases hstar
        | any =>
          have hbc := bx_of htx
          have HTL := Lib.hid (tail_text htx)
          rw [hbc] at hb
          clear htx hbc
          have hbs0 := True.intro
          cases f2 with
          | true =>
            clear hbs0
            go_wp2
            go_roundw
            case rel => exact ⟨r, _, sb, true, rfl, rfl, rfl, HST.out.tail HTL.out (by omega) rfl sb HST.out.asc HST.out.ss, HB.out⟩
            case measure => simp [strOf]; omega
          | false =>
            clear hbs0
            have hs1 := HF.out rfl
            have hx := HST.out.asc 0 (by omega)
            have hbs := bx_get sb 0 (by omega)
            generalize hxx : bx sb 0 = x at hx hbs
            have HX := Lib.hid hxx; clear hxx
            have hq : ∃ b, ((x : Int) == 47) = b ∧ (x == 47) = b := ⟨_, rfl, by rw [Bool.eq_iff_iff, beq_iff_eq, beq_iff_eq]; omega⟩
            obtain ⟨b, q1, q2⟩ := hq
            have HS2 : Hid (ChSt (chM T (nb sb0)) r (cb.extract 1 cb.size) (sb.extract 1 sb.size) b) := Lib.hid (HST.out.step HTL.out (by omega) rfl hs1 (by rw [HX.out]; show b = !(x != 47); rw [bne, q2, Bool.not_not]))
            clear q2
            go_wp2_with fail
            with_reducible refine (zzRune_any sb _ hs1 hss2 HST.out.asc).mono ?_
            rintro e w' ⟨rfl, hb'⟩
            have HB2 := Lib.hid (HB.out.trans (hb'.mono HB.out.size)); clear hb'
            go_wp2
            go_roundw
            case rel => exact ⟨r, _, _, b, rfl, rfl, rfl, HS2.out, HB2.out⟩
            case measure => simp [strOf]; omega
        | lit c =>
          have hbc := bx_of htx
          have HTL := Lib.hid (tail_text htx)
          rw [hbc] at hb
          clear htx hbc
          have hg1 : (97 ≤ c ∧ c ≤ 99) ∨ c = 46 := hg
          have hbs0 := True.intro
          have k1 : ((c : Int) == 91) = false := beq_eq_false_iff_ne.mpr (by omega)
          have k2 : ((c : Int) == 63) = false := beq_eq_false_iff_ne.mpr (by omega)
          have k3 : ((c : Int) == 92) = false := beq_eq_false_iff_ne.mpr (by omega)
          clear hg hg1
          cases f2 with
          | true =>
            clear hbs0
            go_wp2
            go_roundw
            case rel => exact ⟨r, _, sb, true, rfl, rfl, rfl, HST.out.tail HTL.out (by omega) rfl sb HST.out.asc HST.out.ss, HB.out⟩
            case measure => simp [strOf]; omega
          | false =>
            clear hbs0
            have hs1 := HF.out rfl
            have hbs := bx_get sb 0 (by omega)
            generalize hxx : bx sb 0 = x at hbs
            have HX := Lib.hid hxx; clear hxx
            have hq : ∃ b, ((c : Int) != x) = b ∧ (c == x) = !b := ⟨_, rfl, by rw [bne, Bool.not_not, Bool.eq_iff_iff, beq_iff_eq, beq_iff_eq]; omega⟩
            obtain ⟨b, q1, q2⟩ := hq
            have HS2 : Hid (ChSt (chM T (nb sb0)) r (cb.extract 1 cb.size) (sb.extract 1 sb.size) b) := Lib.hid (HST.out.step HTL.out (by omega) rfl hs1 (by rw [HX.out]; show b = !(c == x); rw [q2, Bool.not_not]))
            clear q2
            go_wp2
            go_quiet (fail)
            go_wp2
            go_roundw
            case rel => exact ⟨r, _, _, b, rfl, rfl, rfl, HS2.out, below_drewN HB.out _⟩
            case measure => simp [strOf]; omega
        | esc c =>
          have htx' : nb cb = 92 :: c :: texts r := htx
          have hbc := bx_of htx'
          have HTL := Lib.hid (tail_text htx')
          have hbc2 := bx_of HTL.out
          have hcs3 : 2 ≤ cb.size := by rw [size_of htx']; simp
          rw [hbc] at hb
          clear htx htx' hbc hg
          go_upto_region 39 with (fail)
          have HTL2 := Lib.hid (tail_text HTL.out)
          have hts3 : ((cb.extract 1 cb.size).extract 1 (cb.extract 1 cb.size).size).size = (cb.extract 1 cb.size).size - 1 := size_tail _ 1
          clear HTL
          generalize cb.extract 1 cb.size = cb1 at *
          have hc1 : 1 ≤ cb1.size := by omega
          have hc2 : cb1.size < cb.size := by omega
          clear hts
          have hb2 := bx_get cb1 0 (by omega)
          rw [hbc2] at hb2
          clear hbc2
          have hnz : ((cb1.size : Int) == 0) = false := beq_eq_false_iff_ne.mpr (by omega)
          cases f2 with
          | true =>
            go_wp2
            go_roundw
            case rel => exact ⟨r, _, sb, true, rfl, rfl, rfl, HST.out.tail HTL2.out (by omega) rfl sb HST.out.asc HST.out.ss, HB.out⟩
            case measure => simp [strOf]; omega
          | false =>
            have hs1 := HF.out rfl
            have hbs := bx_get sb 0 (by omega)
            generalize hxx : bx sb 0 = x at hbs
            have HX := Lib.hid hxx; clear hxx
            have hq : ∃ b, ((c : Int) != x) = b ∧ (c == x) = !b := ⟨_, rfl, by rw [bne, Bool.not_not, Bool.eq_iff_iff, beq_iff_eq, beq_iff_eq]; omega⟩
            obtain ⟨b, q1, q2⟩ := hq
            have HS2 : Hid (ChSt (chM T (nb sb0)) r (cb1.extract 1 cb1.size) (sb.extract 1 sb.size) b) := Lib.hid (HST.out.step HTL2.out (by omega) rfl hs1 (by rw [HX.out]; show b = !(c == x); rw [q2, Bool.not_not]))
            clear q2
            go_wp2
            go_quiet (fail)
            go_wp2
            go_roundw
            case rel => exact ⟨r, _, _, b, rfl, rfl, rfl, HS2.out, below_drewN HB.out _⟩
            case measure => simp [strOf]; omega
        | set neg items =>
          have htx' : nb cb = 91 :: (negText neg ++ (itemsText items ++ 93 :: texts r)) := by rw [htx]; simp [Tok.text]
          have hbc := bx_of htx'
          have HTL := Lib.hid (tail_text htx')
          have HIL : Hid (items.length ≤ 1000) := Lib.hid (by have := size_of htx'; have h2 := items_len items; rw [List.length_cons, List.length_append, List.length_append] at this; omega)
          have HG := Lib.hid hg
          have HGR : Hid (∀ t ∈ r, Tok.good t) := Lib.hid fun t ht => (HST.out.good t (by simp [ht])).1
          have hc2 : 2 ≤ cb.size := by rw [size_of htx']; simp; omega
          rw [hbc] at hb
          clear htx htx' hbc hg hts2
          go_upto_if 35 with (fail)
          go_cut [1, 8] (fun s y wx => ∃ (sb' : ByteArray) (x : Nat), s = .string sb' ∧ y = .int .i32 (x : Nat) ∧ (f2 = true → sb' = sb) ∧ (f2 = false → x = bx sb 0 ∧ sb' = sb.extract 1 sb.size) ∧ Below w.heap.size w wx)
          case first =>
            cases f2 with
            | true =>
              go_wp2
              go_meet
              case rel => exact ⟨sb, 0, rfl, rfl, fun _ => rfl, fun h => (by cases h), HB.out⟩
            | false =>
              have hs1 := HF.out rfl
              go_wp2_with fail
              with_reducible refine (zzRune_any sb _ hs1 hss2 HST.out.asc).mono ?_
              rintro e w' ⟨rfl, hb'⟩
              have HB2 := Lib.hid (HB.out.trans (hb'.mono HB.out.size)); clear hb'
              generalize hxx : bx sb 0 = x
              have HX := Lib.hid hxx; clear hxx
              go_wp2
              go_meet
              case rel => exact ⟨_, x, rfl, rfl, fun h => (by cases h), fun _ => ⟨HX.out.symm, rfl⟩, HB2.out⟩
          case rest =>
            clear HB
            obtain ⟨sb', x, rfl, rfl, hx1, hx2, hbel⟩ := hcut
            have HX1 := Lib.hid hx1; clear hx1
            have HX2 := Lib.hid hx2; clear hx2
            have HB := Lib.hid hbel; clear hbel
            go_upto_region 14 with (fail)
            have HLT : Hid ((cb.extract 1 cb.size).size < cb.size) := Lib.hid (by omega)
            clear hts
            generalize cb.extract 1 cb.size = cb1 at *
            go_upto_region 15 with (fail)
            go_cut [53] (fun v wx => v = .bool neg ∧ wx = wc)
            case first =>
              cases neg with
              | true =>
                have ht1 : nb cb1 = 94 :: (itemsText items ++ 93 :: texts r) := HTL.out
                have hz1 : 1 ≤ cb1.size := by rw [size_of ht1]; simp
                have hb1 := bx_get cb1 0 hz1
                rw [bx_of ht1] at hb1
                clear ht1
                go_wp2
                go_meet
                case rel => exact ⟨rfl, rfl⟩
              | false =>
                obtain ⟨lo, l, hl, hlo1, hlo2⟩ := items_first items HG.out.1 HG.out.2 (93 :: texts r)
                have ht1 : nb cb1 = lo :: l := HTL.out.trans hl
                have hz1 : 1 ≤ cb1.size := by rw [size_of ht1]; simp
                have hb1 := bx_get cb1 0 hz1
                rw [bx_of ht1] at hb1
                have q : ((lo : Int) == 94) = false := beq_eq_false_iff_ne.mpr (by omega)
                clear ht1 hl
                go_wp2
                go_meet
                case rel => exact ⟨rfl, rfl⟩
            case rest =>
            obtain ⟨rfl, rfl⟩ := hcut
            go_upto_if 53 with (fail)
            go_cut [0, 10] (fun c n wx => ∃ cb2 : ByteArray, c = .string cb2 ∧ n = .bool neg ∧ nb cb2 = itemsText items ++ 93 :: texts r ∧ cb2.size < cb.size ∧ wx = wc)
            case first =>
              cases neg with
              | true =>
                have ht1 : nb cb1 = 94 :: (itemsText items ++ 93 :: texts r) := HTL.out
                have hz1 : 1 ≤ cb1.size := by rw [size_of ht1]; simp
                have HN := Lib.hid (tail_text ht1)
                have HN2 : Hid ((cb1.extract 1 cb1.size).size < cb.size) := Lib.hid (by have := HLT.out; rw [size_tail]; omega)
                clear ht1
                go_wp2
                go_meet
                case rel => exact ⟨_, rfl, rfl, HN.out, HN2.out, rfl⟩
              | false =>
                go_wp2
                go_meet
                case rel => exact ⟨cb1, rfl, rfl, HTL.out, HLT.out, rfl⟩
            case rest =>
              obtain ⟨cb2, rfl, rfl, ht2, hlt2, rfl⟩ := hcut
              have HT2 := Lib.hid ht2; clear ht2
              clear HTL HLT
              go_wp2
              go_loopw [0, 11, 12] (fun c m n wr => ∃ (dn rs : List (Nat × Option Nat)) (cb3 : ByteArray), items = dn ++ rs ∧ c = .string cb3 ∧ nb cb3 = itemsText rs ++ 93 :: texts r ∧ cb3.size < cb.size ∧ m = .bool (dn.any (hasItem x)) ∧ n = .int .i64 (dn.length : Nat) ∧ Below w.heap.size w wr) (fun c _ _ _ => (strOf c).size)
              case atStart => exact ⟨[], items, cb2, rfl, rfl, HT2.out, hlt2, rfl, rfl, HB.out⟩
              case round =>
                clear HT2 HB hlt2
                obtain ⟨dn, rs, cb3, hdr, rfl, ht3, hlt3, rfl, rfl, hbel3⟩ := hrel
                have HB := Lib.hid hbel3; clear hbel3
                cases rs with
                | nil =>
                  have ht3' : nb cb3 = 93 :: texts r := ht3
                  have hz3 : 1 ≤ cb3.size := by rw [size_of ht3']; simp
                  have hb3 := bx_get cb3 0 hz3
                  rw [bx_of ht3'] at hb3
                  have HN := Lib.hid (tail_text ht3')
                  have hdi : dn = items := by rw [hdr, List.append_nil]
                  have hdl : (0 : Int) < (dn.length : Nat) := by
                    have := List.length_pos_iff.mpr (hdi ▸ HG.out.1)
                    omega
                  have HM : Hid (dn.any (hasItem x) = items.any (hasItem x)) := Lib.hid (by rw [hdi])
                  generalize dn.any (hasItem x) = m at HM
                  generalize dn.length = dl at hdl
                  clear ht3 ht3' hdr hdi
                  cases f2 with
                  | true =>
                    have HS2 : Hid (ChSt (chM T (nb sb0)) r (cb3.extract 1 cb3.size) sb' true) := Lib.hid (by rw [HX1.out rfl]; exact HST.out.tail HN.out (by rw [size_tail]; omega) rfl sb HST.out.asc HST.out.ss)
                    go_wp2
                    go_roundw
                    case rel => exact ⟨r, _, _, true, rfl, rfl, rfl, HS2.out, HB.out⟩
                    case measure => simp [strOf]; omega
                  | false =>
                    have HS2 : Hid (ChSt (chM T (nb sb0)) r (cb3.extract 1 cb3.size) sb' (m == neg)) := Lib.hid (by rw [(HX2.out rfl).2]; exact HST.out.step HN.out (by rw [size_tail]; omega) rfl (HF.out rfl) (by rw [← (HX2.out rfl).1]; show (m == neg) = !(items.any (hasItem x) != neg); rw [← HM.out, bne, Bool.not_not]))
                    go_wp2
                    go_roundw
                    case rel => exact ⟨r, _, _, _, rfl, rfl, rfl, HS2.out, HB.out⟩
                    case measure => simp [strOf]; omega
                | cons it rs =>
                  obtain ⟨lo, hi⟩ := it
                  have HGI : Hid (goodItem (lo, hi)) := Lib.hid (HG.out.2 _ (by rw [hdr]; simp))
                  have HRS : Hid (∀ i ∈ rs, goodItem i) := Lib.hid fun i hi => HG.out.2 i (by rw [hdr]; simp [hi])
                  have HASC : Hid (Asc cb3) := Lib.hid (rest_asc _ (fun i hi => HG.out.2 i (by rw [hdr]; simp at hi ⊢; exact .inr hi)) r HGR.out cb3 ht3)
                  have hdl : dn.length ≤ 1000 := by
                    have := HIL.out
                    rw [hdr, List.length_append] at this
                    omega
                  have HDR := Lib.hid hdr; clear hdr
                  have HGI2 : Hid (∀ z, hi = some z → letter z) := Lib.hid (by have h := HGI.out; unfold goodItem at h; exact h.2)
                  obtain ⟨hlo1, hlo2⟩ := (show 97 ≤ lo ∧ lo ≤ 99 from HGI.out.1)
                  have q93 : ((lo : Int) == 93) = false := beq_eq_false_iff_ne.mpr (by omega)
                  have hcc : cb3.size ≤ 1000 := by omega
                  cases hi with
                  | none =>
                    have ht3' : nb cb3 = lo :: (itemsText rs ++ 93 :: texts r) := ht3
                    obtain ⟨d, m, hd, hne⟩ := items_next rs HRS.out (texts r)
                    have hz3 : 2 ≤ cb3.size := by rw [size_of ht3', hd]; simp
                    have hp3 : 1 ≤ cb3.size := by omega
                    have hbx := bx_of ht3'
                    have hb3 := bx_get cb3 0 (by omega)
                    rw [hbx] at hb3
                    have HT4 := Lib.hid (tail_text ht3')
                    have HL4 : Hid ((cb3.extract 1 cb3.size).size = cb3.size - 1) := Lib.hid (size_tail cb3 1)
                    have HL := Lib.hid (show letter (bx cb3 0) by rw [hbx]; exact HGI.out.1)
                    have HD := Lib.hid hd
                    have HBX := Lib.hid hbx
                    clear ht3 ht3' hd hbx
                    go_wp2_with fail
                    with_reducible refine (zzEsc_any cb3 _ hz3 hcc HASC.out HL.out).mono ?_
                    rintro e w1 ⟨rfl, hb'⟩
                    rw [HBX.out]
                    have HB2 := Lib.hid (HB.out.trans (hb'.mono HB.out.size)); clear hb'
                    clear hb3
                    generalize cb3.extract 1 cb3.size = cb4 at HT4 HL4 ⊢
                    have hl4 := HL4.out
                    have hz4 : 1 ≤ cb4.size := by omega
                    have hlt4 : cb4.size < cb3.size := by omega
                    clear hl4 HL4
                    have hb4 := bx_get cb4 0 hz4
                    rw [bx_of (HT4.out.trans HD.out)] at hb4
                    have q45 : ((d : Int) == 45) = false := beq_eq_false_iff_ne.mpr (by omega)
                    go_upto_region 30 with (fail)
                    go_cut [11] (fun v wx => v = .bool ((dn ++ [(lo, none)]).any (hasItem x)) ∧ wx = w1)
                    case first =>
                      have HANY : Hid ((dn ++ [(lo, none)]).any (hasItem x) = (dn.any (hasItem x) || decide (lo ≤ x ∧ x ≤ lo))) := Lib.hid (by simp [hasItem])
                      generalize dn.any (hasItem x) = m at HANY ⊢
                      cases m with
                      | true =>
                        go_wp2
                        go_meet
                        case rel => exact ⟨by rw [HANY.out]; rfl, rfl⟩
                      | false =>
                        by_cases c1 : (lo : Int) ≤ x
                        · by_cases c2 : (x : Int) ≤ lo
                          · go_wp2
                            go_meet
                            case rel => exact ⟨by rw [HANY.out, decide_eq_true (by omega)]; rfl, rfl⟩
                          · go_wp2
                            go_meet
                            case rel => exact ⟨by rw [HANY.out, decide_eq_false (by omega)]; rfl, rfl⟩
                        · go_wp2
                          go_meet
                          case rel => exact ⟨by rw [HANY.out, decide_eq_false (by omega)]; rfl, rfl⟩
                    case rest =>
                      obtain ⟨rfl, rfl⟩ := hcut
                      have HDR2 : Hid (items = (dn ++ [(lo, none)]) ++ rs) := Lib.hid (by rw [HDR.out]; simp)
                      go_wp2
                      go_roundw
                      case rel => exact ⟨_, rs, _, HDR2.out, rfl, HT4.out, by omega, rfl, by rw [List.length_append]; rfl, HB2.out⟩
                      case measure => simp [strOf]; omega
                  | some h =>
                    have ht3' : nb cb3 = lo :: 45 :: h :: (itemsText rs ++ 93 :: texts r) := ht3
                    have hz3 : 2 ≤ cb3.size := by rw [size_of ht3']; simp
                    have hp3 : 1 ≤ cb3.size := by omega
                    have hbx := bx_of ht3'
                    have hb3 := bx_get cb3 0 (by omega)
                    rw [hbx] at hb3
                    have HT3 := Lib.hid (tail_text ht3')
                    have HL3 : Hid ((cb3.extract 1 cb3.size).size = cb3.size - 1) := Lib.hid (size_tail cb3 1)
                    have HA3 : Hid (Asc (cb3.extract 1 cb3.size)) := Lib.hid (HASC.out.extract _ _)
                    have HL := Lib.hid (show letter (bx cb3 0) by rw [hbx]; exact HGI.out.1)
                    have HBX := Lib.hid hbx
                    clear ht3 ht3' hbx
                    go_wp2_with fail
                    with_reducible refine (zzEsc_any cb3 _ hz3 hcc HASC.out HL.out).mono ?_
                    rintro e w0 ⟨rfl, hb'⟩
                    rw [HBX.out]
                    have HB1 := Lib.hid (HB.out.trans (hb'.mono HB.out.size)); clear hb'
                    clear hb3
                    generalize cb3.extract 1 cb3.size = cb5 at HT3 HL3 HA3 ⊢
                    have hl3 := HL3.out
                    have hz5 : 1 ≤ cb5.size := by omega
                    have hlt5 : cb5.size < cb3.size := by omega
                    clear hl3 HL3
                    have hb5 := bx_get cb5 0 hz5
                    rw [bx_of HT3.out] at hb5
                    have HT5 := Lib.hid (tail_text HT3.out)
                    have HL5 : Hid ((cb5.extract 1 cb5.size).size = cb5.size - 1) := Lib.hid (size_tail cb5 1)
                    have HA5 : Hid (Asc (cb5.extract 1 cb5.size)) := Lib.hid (HA3.out.extract _ _)
                    have HZ5 : Hid (2 ≤ (cb5.extract 1 cb5.size).size) := Lib.hid (by rw [size_of HT5.out]; simp; omega)
                    have HBX5 := Lib.hid (bx_of HT5.out)
                    go_wp2_with fail
                    with_reducible refine (zzEsc_any (cb5.extract 1 cb5.size) _ HZ5.out (by rw [HL5.out]; omega) HA5.out (by rw [HBX5.out]; exact HGI2.out h rfl)).mono ?_
                    rintro e w1 ⟨rfl, hb'⟩
                    rw [HBX5.out]
                    have HB2 := Lib.hid (HB1.out.trans (hb'.mono HB1.out.size)); clear hb'
                    have HT4 := Lib.hid (tail_text HT5.out)
                    have HL6 : Hid (((cb5.extract 1 cb5.size).extract 1 (cb5.extract 1 cb5.size).size).size = (cb5.extract 1 cb5.size).size - 1) := Lib.hid (size_tail _ 1)
                    clear hb5
                    generalize cb5.extract 1 cb5.size = cb6 at HT4 HL5 HL6 HT5 HA5 HZ5 HBX5 ⊢
                    generalize cb6.extract 1 cb6.size = cb4 at HT4 HL6 ⊢
                    have hlt4 : cb4.size < cb3.size := by have := HL5.out; have := HL6.out; omega
                    obtain ⟨hh1, hh2⟩ := (show 97 ≤ h ∧ h ≤ 99 from HGI2.out h rfl)
                    go_upto_region 30 with (fail)
                    go_cut [11] (fun v wx => v = .bool ((dn ++ [(lo, some h)]).any (hasItem x)) ∧ wx = w1)
                    case first =>
                      have HANY : Hid ((dn ++ [(lo, some h)]).any (hasItem x) = (dn.any (hasItem x) || decide (lo ≤ x ∧ x ≤ h))) := Lib.hid (by simp [hasItem])
                      generalize dn.any (hasItem x) = m at HANY ⊢
                      cases m with
                      | true =>
                        go_wp2
                        go_meet
                        case rel => exact ⟨by rw [HANY.out]; rfl, rfl⟩
                      | false =>
                        by_cases c1 : (lo : Int) ≤ x
                        · by_cases c2 : (x : Int) ≤ h
                          · go_wp2
                            go_meet
                            case rel => exact ⟨by rw [HANY.out, decide_eq_true (by omega)]; rfl, rfl⟩
                          · go_wp2
                            go_meet
                            case rel => exact ⟨by rw [HANY.out, decide_eq_false (by omega)]; rfl, rfl⟩
                        · go_wp2
                          go_meet
                          case rel => exact ⟨by rw [HANY.out, decide_eq_false (by omega)]; rfl, rfl⟩
                    case rest =>
                      obtain ⟨rfl, rfl⟩ := hcut
                      have HDR2 : Hid (items = (dn ++ [(lo, some h)]) ++ rs) := Lib.hid (by rw [HDR.out]; simp)
                      go_wp2
                      go_roundw
                      case rel => exact ⟨_, rs, _, HDR2.out, rfl, HT4.out, by omega, rfl, by rw [List.length_append]; rfl, HB2.out⟩
                      case measure => simp [strOf]; omega
end Go.Proofs.YteipeagdflcjjaaDoor.Ga
