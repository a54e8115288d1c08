/- index's matchChunk: a chunk of signs is read off a name's beginning. -/
import Derived.Test.YteipeagdflcjjaaDoorIxE
namespace Go.Proofs.YteipeagdflcjjaaDoor.Ix
open Go.RowKit
set_option linter.unusedSimpArgs false
set_option linter.unusedVariables false

theorem size_none {cb : ByteArray} {t : Tok} {r : List Tok} (h : nb cb = texts (t :: r)) : 1 ≤ cb.size := by
  rw [← nb_length, h, texts_cons, List.length_append]
  have := List.length_pos_iff.mpr (text_ne t)
  omega
theorem gd_lit {c : Nat} (h : gd (.lit c)) : (97 ≤ c ∧ c ≤ 99) ∨ c = 46 ∨ c = 47 := by
  rcases h with h | h
  · rcases h with h | h
    · exact .inl h
    · exact .inr (.inl h)
  · injection h with h; exact .inr (.inr h)
theorem gd_esc {c : Nat} (h : gd (.esc c)) : letter c ∨ c = 42 ∨ c = 63 ∨ c = 91 := by
  rcases h with h | h
  · exact h
  · cases h
theorem gd_set {neg : Bool} {items : List (Nat × Option Nat)} (h : gd (.set neg items)) : items ≠ [] ∧ ∀ i ∈ items, goodItem i := by
  rcases h with h | h
  · exact h
  · cases h
theorem texts_asc {r : List Tok} (h : ∀ t ∈ r, gd t) : ∀ c ∈ texts r, c < 128 := by
  intro c hc
  obtain ⟨t, ht, hc⟩ := List.mem_flatMap.mp hc
  have hg := h t ht
  cases t with
  | star => simp [Tok.text] at hc; omega
  | any => simp [Tok.text] at hc; omega
  | lit x => simp [Tok.text] at hc; have := gd_lit hg; omega
  | esc x => simp [Tok.text] at hc; have := gd_esc hg; unfold letter at this; omega
  | set neg items =>
    have h2 := (gd_set hg).2
    simp only [Tok.text, List.mem_cons, List.mem_append, List.not_mem_nil, or_false] at hc
    rcases hc with rfl | hc | hc | rfl
    · decide
    · unfold negText at hc; split at hc
      · rw [List.mem_singleton] at hc; omega
      · cases hc
    · have := items_plain items h2 c hc; unfold letter at this; omega
    · decide
theorem rest_ascG {rs : List (Nat × Option Nat)} (h : ∀ i ∈ rs, goodItem i) {r : List Tok} (hr : ∀ t ∈ r, gd t) {cb : ByteArray} (ht : nb cb = itemsText rs ++ 93 :: texts r) : Asc cb := by
  refine asc_of fun c hc => ?_
  rw [ht] at hc
  rcases List.mem_append.mp hc with hc | hc
  · have := items_plain rs h c hc; unfold letter at this; omega
  · rcases List.mem_cons.mp hc with rfl | hc
    · decide
    · exact texts_asc hr c hc

set_option maxRecDepth 100000 in
set_option maxHeartbeats 8000000 in
theorem matchChunk_any (T : List Tok) (cb0 sb0 : ByteArray) (w : World) (h0 : CSt (chP hasR T (nb sb0)) T cb0 sb0) :
    Calls Tryd.prog 74 #[.string cb0, .string sb0] w (IChunkPost T sb0 w) := by
  have H0 := Lib.hid h0; clear h0
  go_enter Tryd.func74, Tryd.ntmps74
  go_wp2
  go_loopw [0, 1, 6] (fun c s er wr => ∃ T' cb sb, c = .string cb ∧ s = .string sb ∧ er = .nilIface ∧ CSt (chP hasR T (nb sb0)) T' cb sb ∧ Below w.heap.size w wr) (fun c _ _ _ => (strOf c).size)
  case atStart => exact ⟨T, cb0, sb0, rfl, rfl, rfl, H0.out, Below.refl _ _⟩
  case round =>
    clear H0
    obtain ⟨T', cb, sb, rfl, rfl, rfl, hst, hbel⟩ := hrel
    have HST := Lib.hid hst; clear hst
    have HB := Lib.hid hbel; clear hbel
    cases T' with
    | nil =>
      have hz : cb.size = 0 := size_nil HST.out.text
      have HR : Hid (chP hasR T (nb sb0) = some (nb sb)) := Lib.hid HST.out.res
      go_wp2
      go_ret3
      exact ⟨HB.out, .inr ⟨sb, HR.out, HST.out.asc, HST.out.ss, rfl⟩⟩
    | cons t r =>
      have hcs := size_none HST.out.text
      have hcs2 := HST.out.cs
      have hss2 := HST.out.ss
      by_cases hse : sb.size = 0
      · have e1 : ((sb.size : Int) == 0) = true := by rw [hse]; rfl
        have HN := Lib.hid (HST.out.none hse)
        clear hse
        go_wp2
        go_ret3
        exact ⟨HB.out, .inl ⟨HN.out, rfl⟩⟩
      have e1 : ((sb.size : Int) == 0) = false := beq_eq_false_iff_ne.mpr (by omega)
      have hs1 : 1 ≤ sb.size := by omega
      have hb := bx_get cb 0 (by omega)
      have htx := HST.out.text
      rw [texts_cons] at htx
      have hts : (cb.extract 1 cb.size).size = cb.size - 1 := size_tail cb 1
      have hts2 : (sb.extract 1 sb.size).size = sb.size - 1 := size_tail sb 1
      obtain ⟨hg, hstar⟩ := HST.out.good t (by simp)
      have hx := HST.out.asc 0 (by omega)
      have hbs := bx_get sb 0 (by omega)
      clear hse
      cases t with
      | star => cases hstar
      | any =>
        have hbc := bx_of htx
        have HTL := Lib.hid (tail_text htx)
        rw [hbc] at hb
        clear htx hbc hbs
        have HX := Lib.hid hx
        have HS2 := Lib.hid (HST.out.step HTL.out (by omega) hs1 rfl)
        go_wp2_with fail
        with_reducible refine (decode_any sb _ hs1 HX.out).mono ?_
        rintro e w' ⟨rfl, rfl⟩
        go_wp2
        go_roundw
        case rel => exact ⟨r, _, _, rfl, rfl, rfl, HS2.out, HB.out⟩
        case measure => simp [strOf]; omega
      | lit c =>
        have hbc := bx_of htx
        have HTL := Lib.hid (tail_text htx)
        rw [hbc] at hb
        clear htx hbc
        have hg1 := gd_lit hg
        have k1 : ((c : Int) == 91) = false := beq_eq_false_iff_ne.mpr (by omega)
        have k2 : ((c : Int) == 63) = false := beq_eq_false_iff_ne.mpr (by omega)
        have k3 : ((c : Int) == 92) = false := beq_eq_false_iff_ne.mpr (by omega)
        clear hg hg1
        generalize hxx : bx sb 0 = x at hbs hx
        have HX := Lib.hid hxx; clear hxx
        by_cases hcx : c = x
        · have q1 : ((c : Int) != x) = false := by rw [bne_eq_false_iff_eq]; omega
          have HS2 := Lib.hid (HST.out.step HTL.out (by omega) hs1 (by rw [HX.out, hcx]; show (x == x) = true; simp))
          clear hcx
          go_wp2
          go_quiet (fail)
          go_wp2
          go_roundw
          case rel => exact ⟨r, _, _, rfl, rfl, rfl, HS2.out, below_drewN HB.out _⟩
          case measure => simp [strOf]; omega
        · have q1 : ((c : Int) != x) = true := by rw [bne_iff_ne]; omega
          have HN := Lib.hid (HST.out.stop hs1 (by rw [HX.out]; show (c == x) = false; simpa using hcx))
          clear hcx
          go_wp2
          go_quiet (fail)
          go_wp2
          go_ret3
          exact ⟨below_drewN HB.out _, .inl ⟨HN.out, rfl⟩⟩
      | esc c =>
        have htx' : nb cb = 92 :: c :: texts r := htx
        have hbc := bx_of htx'
        have HTL := Lib.hid (tail_text htx')
        have hbc2 := bx_of HTL.out
        have hcs3 : 2 ≤ cb.size := by rw [size_of htx']; simp
        rw [hbc] at hb
        clear htx htx' hbc hg
        go_upto_region 34 with (fail)
        have HTL2 := Lib.hid (tail_text HTL.out)
        have hts3 : ((cb.extract 1 cb.size).extract 1 (cb.extract 1 cb.size).size).size = (cb.extract 1 cb.size).size - 1 := size_tail _ 1
        clear HTL
        generalize cb.extract 1 cb.size = cb1 at *
        have hc1 : 1 ≤ cb1.size := by omega
        have hc2 : cb1.size < cb.size := by omega
        clear hts
        have hb2 := bx_get cb1 0 (by omega)
        rw [hbc2] at hb2
        clear hbc2 hb
        have hnz : ((cb1.size : Int) == 0) = false := beq_eq_false_iff_ne.mpr (by omega)
        generalize hxx : bx sb 0 = x at hbs hx
        have HX := Lib.hid hxx; clear hxx
        by_cases hcx : c = x
        · have q1 : ((c : Int) != x) = false := by rw [bne_eq_false_iff_eq]; omega
          have HS2 := Lib.hid (HST.out.step HTL2.out (by omega) hs1 (by rw [HX.out, hcx]; show (x == x) = true; simp))
          clear hcx
          go_wp2
          go_quiet (fail)
          go_wp2
          go_roundw
          case rel => exact ⟨r, _, _, rfl, rfl, rfl, HS2.out, below_drewN HB.out _⟩
          case measure => simp [strOf]; omega
        · have q1 : ((c : Int) != x) = true := by rw [bne_iff_ne]; omega
          have HN := Lib.hid (HST.out.stop hs1 (by rw [HX.out]; show (c == x) = false; simpa using hcx))
          clear hcx
          go_wp2
          go_quiet (fail)
          go_wp2
          go_ret3
          exact ⟨below_drewN HB.out _, .inl ⟨HN.out, rfl⟩⟩
      | set neg items =>
        have htx' : nb cb = 91 :: (negText neg ++ (itemsText items ++ 93 :: texts r)) := by rw [htx]; simp [Tok.text]
        have hbc := bx_of htx'
        have HTL := Lib.hid (tail_text htx')
        have HIL : Hid (items.length ≤ 1000) := Lib.hid (by have := size_of htx'; have h2 := items_len items; rw [List.length_cons, List.length_append, List.length_append] at this; omega)
        have HG := Lib.hid (gd_set hg)
        have HGR : Hid (∀ t ∈ r, gd t) := Lib.hid fun t ht => (HST.out.good t (by simp [ht])).1
        have hc2 : 2 ≤ cb.size := by rw [size_of htx']; simp; omega
        rw [hbc] at hb
        have HX := Lib.hid hx
        have e7 : (((cb.extract 1 cb.size).size : Int) == 0) = false := beq_eq_false_iff_ne.mpr (by omega)
        clear htx htx' hbc hg hbs
        go_wp2_with fail
        with_reducible refine (decode_any sb _ hs1 HX.out).mono ?_
        rintro e w' ⟨rfl, rfl⟩
        generalize hxx : bx sb 0 = x at hx HX ⊢
        have HXX := Lib.hid hxx; clear hxx
        go_upto_region 12 with (fail)
        have HLT : Hid ((cb.extract 1 cb.size).size < cb.size) := Lib.hid (by omega)
        clear hts hts2 e7 hb
        generalize cb.extract 1 cb.size = cb1 at *
        generalize hsb' : sb.extract 1 sb.size = sb'
        have HSB := Lib.hid hsb'; clear hsb'
        have hfirst : ∃ d m, nb cb1 = d :: m ∧ (d == 94) = neg := by
          cases neg with
          | true => exact ⟨94, _, HTL.out, rfl⟩
          | false =>
            obtain ⟨d, m, e, h1, h2⟩ := items_first items HG.out.1 HG.out.2 (93 :: texts r)
            exact ⟨d, m, HTL.out.trans e, by rw [beq_eq_false_iff_ne]; omega⟩
        obtain ⟨d, m, hd, hd2⟩ := hfirst
        have hz1 : 1 ≤ cb1.size := by rw [size_of hd]; simp
        have hb1 := bx_get cb1 0 (by omega)
        rw [bx_of hd] at hb1
        have hq : ((d : Int) == 94) = neg := by rw [← hd2, Bool.eq_iff_iff, beq_iff_eq, beq_iff_eq]; omega
        clear hd hd2
        go_upto_if 47 with (fail)
        clear hb1 hq hz1
        go_cut [0] (fun c wx => ∃ cb2 : ByteArray, c = .string cb2 ∧ nb cb2 = itemsText items ++ 93 :: texts r ∧ cb2.size < cb.size ∧ wx = wr)
        case first =>
          cases neg with
          | true =>
            have ht1 : nb cb1 = 94 :: (itemsText items ++ 93 :: texts r) := HTL.out
            have hz1 : 1 ≤ cb1.size := by rw [size_of ht1]; simp
            have HN := Lib.hid (tail_text ht1)
            have HN2 : Hid ((cb1.extract 1 cb1.size).size < cb.size) := Lib.hid (by have := HLT.out; rw [size_tail]; omega)
            clear ht1
            go_wp2
            go_meet
            case rel => exact ⟨_, rfl, HN.out, HN2.out, rfl⟩
          | false =>
            go_wp2
            go_meet
            case rel => exact ⟨cb1, rfl, HTL.out, HLT.out, rfl⟩
        case rest =>
        obtain ⟨cb2, rfl, ht2, hlt2, rfl⟩ := hcut
        have HT2 := Lib.hid ht2; clear ht2
        clear HTL HLT
        go_wp2
        go_loop [0, 6, 10, 11] (fun c er m n => ∃ (dn rs : List (Nat × Option Nat)) (cb3 : ByteArray), items = dn ++ rs ∧ c = .string cb3 ∧ er = .nilIface ∧ nb cb3 = itemsText rs ++ 93 :: texts r ∧ cb3.size < cb.size ∧ m = .bool (dn.any (hasItem x)) ∧ n = .int .i64 (dn.length : Nat)) (fun c _ _ _ => (strOf c).size)
        case atStart => exact ⟨[], items, cb2, rfl, rfl, rfl, HT2.out, hlt2, rfl, rfl⟩
        case round =>
          clear HT2 hlt2
          obtain ⟨dn, rs, cb3, hdr, rfl, rfl, ht3, hlt3, rfl, rfl⟩ := hrel
          cases rs with
          | nil =>
            have ht3' : nb cb3 = 93 :: texts r := ht3
            have hz3 : 1 ≤ cb3.size := by rw [size_of ht3']; simp
            have hb3 := bx_get cb3 0 hz3
            rw [bx_of ht3'] at hb3
            have HN := Lib.hid (tail_text ht3')
            have hdi : dn = items := by rw [hdr, List.append_nil]
            have hdl : (0 : Int) < (dn.length : Nat) := by
              have := List.length_pos_iff.mpr (hdi ▸ HG.out.1)
              omega
            have HM : Hid (dn.any (hasItem x) = items.any (hasItem x)) := Lib.hid (by rw [hdi])
            generalize dn.any (hasItem x) = m at HM
            generalize dn.length = dl at hdl
            have HL3 : Hid ((cb3.extract 1 cb3.size).size = cb3.size - 1) := Lib.hid (size_tail cb3 1)
            clear ht3 ht3' hdr hdi
            by_cases hmn : m = neg
            · have q1 : (m == neg) = true := by rw [hmn]; cases neg <;> rfl
              have HS : Hid (chP hasR T (nb sb0) = none) := Lib.hid (HST.out.stop hs1 (by rw [HXX.out]; show (items.any (hasItem x) != neg) = false; rw [← HM.out, hmn]; cases neg <;> rfl))
              clear hmn
              go_wp2
              go_ret3
              exact ⟨HB.out, .inl ⟨HS.out, rfl⟩⟩
            · have q1 : (m == neg) = false := by cases m <;> cases neg <;> first | rfl | exact absurd rfl hmn
              have HS2 : Hid (CSt (chP hasR T (nb sb0)) r (cb3.extract 1 cb3.size) sb') := Lib.hid (by
                rw [← HSB.out]
                exact HST.out.step HN.out (by have := HL3.out; omega) hs1 (by rw [HXX.out]; show (items.any (hasItem x) != neg) = true; rw [← HM.out]; cases m <;> cases neg <;> first | rfl | exact absurd rfl hmn))
              have HL3' := HL3.out
              clear hmn
              go_wp2
              go_roundw
              case rel => exact ⟨r, _, _, rfl, rfl, rfl, HS2.out, HB.out⟩
              case measure => simp [strOf]; omega
          | cons it rs =>
            obtain ⟨lo, hi⟩ := it
            have HGI : Hid (goodItem (lo, hi)) := Lib.hid (HG.out.2 _ (by rw [hdr]; simp))
            have HRS : Hid (∀ i ∈ rs, goodItem i) := Lib.hid fun i hi => HG.out.2 i (by rw [hdr]; simp [hi])
            have HASC : Hid (Asc cb3) := Lib.hid (rest_ascG (fun i hi => HG.out.2 i (by rw [hdr]; simp at hi ⊢; exact .inr hi)) HGR.out ht3)
            have hdl : dn.length ≤ 1000 := by
              have := HIL.out
              rw [hdr, List.length_append] at this
              omega
            have HDR := Lib.hid hdr; clear hdr
            have HGI2 : Hid (∀ z, hi = some z → letter z) := Lib.hid (by have h := HGI.out; unfold goodItem at h; exact h.2)
            obtain ⟨hlo1, hlo2⟩ := (show 97 ≤ lo ∧ lo ≤ 99 from HGI.out.1)
            have q93 : ((lo : Int) == 93) = false := beq_eq_false_iff_ne.mpr (by omega)
            have hcc : cb3.size ≤ 1000 := by omega
            cases hi with
            | none =>
              have ht3' : nb cb3 = lo :: (itemsText rs ++ 93 :: texts r) := ht3
              obtain ⟨d, m, hd, hne⟩ := items_next rs HRS.out (texts r)
              have hz3 : 2 ≤ cb3.size := by rw [size_of ht3', hd]; simp
              have hp3 : 1 ≤ cb3.size := by omega
              have hbx := bx_of ht3'
              have hb3 := bx_get cb3 0 (by omega)
              rw [hbx] at hb3
              have HT4 := Lib.hid (tail_text ht3')
              have HL4 : Hid ((cb3.extract 1 cb3.size).size = cb3.size - 1) := Lib.hid (size_tail cb3 1)
              have HL := Lib.hid (show letter (bx cb3 0) by rw [hbx]; exact HGI.out.1)
              have HD := Lib.hid hd
              have HBX := Lib.hid hbx
              clear ht3 ht3' hd hbx
              go_wp2_with fail
              with_reducible refine (getEsc_any cb3 _ hz3 hcc HASC.out HL.out).mono ?_
              rintro e w1 ⟨rfl, rfl⟩
              rw [HBX.out]
              clear hb3
              generalize cb3.extract 1 cb3.size = cb4 at HT4 HL4 ⊢
              have hl4 := HL4.out
              have hz4 : 1 ≤ cb4.size := by omega
              have hlt4 : cb4.size < cb3.size := by omega
              clear hl4 HL4
              have hb4 := bx_get cb4 0 hz4
              rw [bx_of (HT4.out.trans HD.out)] at hb4
              have q45 : ((d : Int) == 45) = false := beq_eq_false_iff_ne.mpr (by omega)
              go_upto_region 26 with (fail)
              go_cut [92] (fun v wx => v = .bool (decide (lo ≤ x ∧ x ≤ lo)) ∧ wx = wc)
              case first =>
                by_cases c1 : (lo : Int) ≤ x
                · by_cases c2 : (x : Int) ≤ lo
                  · go_wp2
                    go_meet
                    case rel => exact ⟨by rw [decide_eq_true (by omega)], rfl⟩
                  · go_wp2
                    go_meet
                    case rel => exact ⟨by rw [decide_eq_false (by omega)], rfl⟩
                · go_wp2
                  go_meet
                  case rel => exact ⟨by rw [decide_eq_false (by omega)], rfl⟩
              case rest =>
              obtain ⟨rfl, rfl⟩ := hcut
              have HANY : Hid ((dn ++ [(lo, none)]).any (hasItem x) = (dn.any (hasItem x) || decide (lo ≤ x ∧ x ≤ lo))) := Lib.hid (by simp [hasItem])
              generalize dn.any (hasItem x) = m at HANY ⊢
              generalize decide (lo ≤ x ∧ x ≤ lo) = q at HANY ⊢
              go_upto_if 92 with (fail)
              go_cut [10] (fun v wx => v = .bool ((dn ++ [(lo, none)]).any (hasItem x)) ∧ wx = wc)
              case first =>
                cases q with
                | true =>
                  go_wp2
                  go_meet
                  case rel => exact ⟨by rw [HANY.out, Bool.or_true], rfl⟩
                | false =>
                  go_wp2
                  go_meet
                  case rel => exact ⟨by rw [HANY.out, Bool.or_false], rfl⟩
              case rest =>
                obtain ⟨rfl, rfl⟩ := hcut
                have HDR2 : Hid (items = (dn ++ [(lo, none)]) ++ rs) := Lib.hid (by rw [HDR.out]; simp)
                go_wp2
                go_round
                case rel => exact ⟨_, rs, _, HDR2.out, rfl, rfl, HT4.out, by omega, rfl, by rw [List.length_append]; rfl⟩
                case measure => simp [strOf]; omega
            | some h =>
              have ht3' : nb cb3 = lo :: 45 :: h :: (itemsText rs ++ 93 :: texts r) := ht3
              have hz3 : 2 ≤ cb3.size := by rw [size_of ht3']; simp
              have hp3 : 1 ≤ cb3.size := by omega
              have hbx := bx_of ht3'
              have hb3 := bx_get cb3 0 (by omega)
              rw [hbx] at hb3
              have HT3 := Lib.hid (tail_text ht3')
              have HL3 : Hid ((cb3.extract 1 cb3.size).size = cb3.size - 1) := Lib.hid (size_tail cb3 1)
              have HA3 : Hid (Asc (cb3.extract 1 cb3.size)) := Lib.hid (HASC.out.extract _ _)
              have HL := Lib.hid (show letter (bx cb3 0) by rw [hbx]; exact HGI.out.1)
              have HBX := Lib.hid hbx
              clear ht3 ht3' hbx
              go_wp2_with fail
              with_reducible refine (getEsc_any cb3 _ hz3 hcc HASC.out HL.out).mono ?_
              rintro e w0 ⟨rfl, rfl⟩
              rw [HBX.out]
              clear hb3
              generalize cb3.extract 1 cb3.size = cb5 at HT3 HL3 HA3 ⊢
              have hl3 := HL3.out
              have hz5 : 1 ≤ cb5.size := by omega
              have hlt5 : cb5.size < cb3.size := by omega
              clear hl3 HL3
              have hb5 := bx_get cb5 0 hz5
              rw [bx_of HT3.out] at hb5
              have HT5 := Lib.hid (tail_text HT3.out)
              have HL5 : Hid ((cb5.extract 1 cb5.size).size = cb5.size - 1) := Lib.hid (size_tail cb5 1)
              have HA5 : Hid (Asc (cb5.extract 1 cb5.size)) := Lib.hid (HA3.out.extract _ _)
              have HZ5 : Hid (2 ≤ (cb5.extract 1 cb5.size).size) := Lib.hid (by rw [size_of HT5.out]; simp; omega)
              have HBX5 := Lib.hid (bx_of HT5.out)
              go_wp2_with fail
              with_reducible refine (getEsc_any (cb5.extract 1 cb5.size) _ HZ5.out (by rw [HL5.out]; omega) HA5.out (by rw [HBX5.out]; exact HGI2.out h rfl)).mono ?_
              rintro e w1 ⟨rfl, rfl⟩
              rw [HBX5.out]
              have HT4 := Lib.hid (tail_text HT5.out)
              have HL6 : Hid (((cb5.extract 1 cb5.size).extract 1 (cb5.extract 1 cb5.size).size).size = (cb5.extract 1 cb5.size).size - 1) := Lib.hid (size_tail _ 1)
              clear hb5
              generalize cb5.extract 1 cb5.size = cb6 at HT4 HL5 HL6 HT5 HA5 HZ5 HBX5 ⊢
              generalize cb6.extract 1 cb6.size = cb4 at HT4 HL6 ⊢
              have hlt4 : cb4.size < cb3.size := by have := HL5.out; have := HL6.out; omega
              obtain ⟨hh1, hh2⟩ := (show 97 ≤ h ∧ h ≤ 99 from HGI2.out h rfl)
              go_upto_region 26 with (fail)
              go_cut [92] (fun v wx => v = .bool (decide (lo ≤ x ∧ x ≤ h)) ∧ wx = wc)
              case first =>
                by_cases c1 : (lo : Int) ≤ x
                · by_cases c2 : (x : Int) ≤ h
                  · go_wp2
                    go_meet
                    case rel => exact ⟨by rw [decide_eq_true (by omega)], rfl⟩
                  · go_wp2
                    go_meet
                    case rel => exact ⟨by rw [decide_eq_false (by omega)], rfl⟩
                · go_wp2
                  go_meet
                  case rel => exact ⟨by rw [decide_eq_false (by omega)], rfl⟩
              case rest =>
              obtain ⟨rfl, rfl⟩ := hcut
              have HANY : Hid ((dn ++ [(lo, some h)]).any (hasItem x) = (dn.any (hasItem x) || decide (lo ≤ x ∧ x ≤ h))) := Lib.hid (by simp [hasItem])
              generalize dn.any (hasItem x) = m at HANY ⊢
              generalize decide (lo ≤ x ∧ x ≤ h) = q at HANY ⊢
              go_upto_if 92 with (fail)
              go_cut [10] (fun v wx => v = .bool ((dn ++ [(lo, some h)]).any (hasItem x)) ∧ wx = wc)
              case first =>
                cases q with
                | true =>
                  go_wp2
                  go_meet
                  case rel => exact ⟨by rw [HANY.out, Bool.or_true], rfl⟩
                | false =>
                  go_wp2
                  go_meet
                  case rel => exact ⟨by rw [HANY.out, Bool.or_false], rfl⟩
              case rest =>
                obtain ⟨rfl, rfl⟩ := hcut
                have HDR2 : Hid (items = (dn ++ [(lo, some h)]) ++ rs) := Lib.hid (by rw [HDR.out]; simp)
                go_wp2
                go_round
                case rel => exact ⟨_, rs, _, HDR2.out, rfl, rfl, HT4.out, by omega, rfl, by rw [List.length_append]; rfl⟩
                case measure => simp [strOf]; omega
end Go.Proofs.YteipeagdflcjjaaDoor.Ix
