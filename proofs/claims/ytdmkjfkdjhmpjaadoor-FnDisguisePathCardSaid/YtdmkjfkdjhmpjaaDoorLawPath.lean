/- FnDisguisePath: the walk. -/
import Derived.Test.YtdmkjfkdjhmpjaaDoorBadPart
import Derived.Test.YtdmkjfkdjhmpjaaDoorPathErr
import Derived.Test.YtdmkjfkdjhmpjaaDoorHeadArg
namespace Go.Proofs.YtdmkjfkdjhmpjaaDoor
open Go.RowKit
set_option linter.unusedSimpArgs false
set_option linter.unusedVariables false

theorem own_built (w : World) (C : Array Value) (L : List ByteArray) (hC : C = (L.map Value.string).toArray) (hl : L.length ≤ maxLen) :
    Own (w.alloc (.cells C 9)) w.heap.size (.slice (some ⟨w.heap.size, 0, none⟩) L.length L.length) L := by
  refine ⟨by simp, .inr ⟨w.heap.size, L.length, C, rfl, Nat.le_refl _, heap_new w _, Nat.le_refl _, hl, ?_, ?_⟩⟩
  · rw [hC]; simp
  · rw [hC]
    rw [List.take_of_length_le (by simp)]

set_option maxRecDepth 100000 in
set_option maxHeartbeats 4000000 in
theorem lawPath_any (A0 : Option Addr) (n0 c0 : Nat) (f0 : Nat → ByteArray) (at0 : Nat) (wd : Nat) (A1 A2 : Option Addr) (n1 c1 n2 c2 : Nat) (f1 : Nat → Bool) (f2 : Nat → Nat) (At : Option Addr) (nt ct : Nat) (ft : Nat → Bool) (a : Addr) (msg : ByteArray) (w : World)
    (hn0 : n0 ≤ maxLen) (h0 : Strs w A0 n0 f0) (hat : at0 < 256) (h : HeadArg w wd A1 A2 n1 n2 f1 f2) (hr : Rd w At nt (fun i => .bool (ft i))) (hv : ErrVar w a msg) :
    Calls Tryd.prog 3 #[.slice A0 n0 c0, .int .u8 at0, .agg #[.int .u8 wd, .slice A1 n1 c1, .slice A2 n2 c2], .slice At nt ct] w (TrueBelow w) := by
  have HH := Lib.hid h; clear h
  have HR := Lib.hid hr; clear hr
  have H0 := Lib.hid h0; clear h0
  have HV := Lib.hid hv; clear hv
  obtain ⟨i0, hi, hz0, hz1, hz2⟩ := info_parts strInfo
  go_enter Tryd.func3, Tryd.ntmps3
  go_upto_region 1 with (fail)
  generalize hW : w.alloc _ = W
  have hW2 : Boxed w W wd A1 A2 n1 c1 n2 c2 := by subst hW; exact Boxed.new w wd A1 A2 n1 c1 n2 c2
  clear hW
  have HW := Lib.hid hW2
  obtain ⟨d0, d1, d2⟩ := hW2.cells (Below.refl _ _)
  clear hW2
  have H1 := Lib.hid (H0.out.below HW.out.bel)
  go_cut [37] (fun v wx => ∃ B : Bool, v = .bool B ∧ (B = false → n0 ≤ 2147483647 ∧ (∀ i, i < n0 → (f0 i).size ≤ 2147483647) ∧ n1 ≤ 2147483647 ∧ n2 ≤ 2147483647 ∧ nt ≤ 2147483647) ∧ Below W.heap.size W wx)
  case first =>
    go_wp2_with fail
    with_reducible refine (fits3_any _ _ _ f0 _ hn0 H1.out).mono ?_
    rintro e w' ⟨r1, rfl, hr1, rfl⟩
    cases r1 with
    | false =>
      clear hr1
      go_wp2
      go_meet
      case rel => exact ⟨true, rfl, fun h => (by cases h), Below.refl _ _⟩
    | true =>
      obtain ⟨hp1, hp2⟩ := hr1 rfl
      have HP2 := Lib.hid hp2
      clear hr1 hp2
      go_wp2_with fail
      with_reducible refine (fits17_any _ _ _ _ _ _ _ _).mono ?_
      rintro e w1 ⟨rfl, hb⟩
      have B1 := Lib.hid hb; clear hb
      by_cases hf : n1 ≤ 2147483647 ∧ n2 ≤ 2147483647
      · rw [decide_eq_true hf]
        by_cases ht : (nt : Int) ≤ 2147483647
        · go_wp2
          go_meet
          case rel => exact ⟨_, rfl, fun _ => ⟨hp1, HP2.out, hf.1, hf.2, by omega⟩, B1.out⟩
        · have ht' : (2147483647 : Int) < nt := by omega
          go_wp2
          go_meet
          case rel => exact ⟨true, rfl, fun h => (by cases h), B1.out⟩
      · rw [decide_eq_false hf]
        go_wp2
        go_meet
        case rel => exact ⟨true, rfl, fun h => (by cases h), B1.out⟩
  case rest =>
    obtain ⟨B, rfl, hB, hb⟩ := hcut
    clear d0 d1 d2
    have B1 := Lib.hid hb; clear hb
    obtain ⟨d0, d1, d2⟩ := HW.out.cells B1.out
    cases B with
    | true =>
      clear hB
      go_wp2
      go_ret
      exact ⟨rfl, HW.out.below B1.out⟩
    | false =>
      obtain ⟨hf1, hf2, hf3, hf4, hf5⟩ := hB rfl
      have HF2 := Lib.hid hf2
      clear hB hf2
      go_upto_region 3 with (fail)
      go_cut [55] (fun v wx => ∃ B : Bool, v = .bool B ∧ (B = false → (1 ≤ n0 ∧ n0 ≤ 5) ∧ (n1 ≤ 12 ∧ n2 ≤ 12) ∧ nt ≤ 6) ∧ Below W.heap.size W wx)
      case first =>
        by_cases hl1 : (n0 : Int) < 1
        · go_wp2
          go_meet
          case rel => exact ⟨true, rfl, fun h => (by cases h), B1.out⟩
        · have hl1' : (1 : Int) ≤ n0 := by omega
          by_cases hl5 : (5 : Int) < n0
          · go_wp2
            go_meet
            case rel => exact ⟨true, rfl, fun h => (by cases h), B1.out⟩
          · have hl5' : (n0 : Int) ≤ 5 := by omega
            go_wp2_with fail
            with_reducible refine (isDisguise_any _ _ _ _ _ _ _ _).mono ?_
            rintro e w2 ⟨rfl, hb⟩
            have B2 := Lib.hid (B1.out.trans (hb.mono B1.out.size)); clear hb d0 d1 d2
            by_cases hdis : n1 ≤ 12 ∧ n2 ≤ 12
            · rw [decide_eq_true hdis]
              by_cases ht : (nt : Int) ≤ 6
              · go_wp2
                go_meet
                case rel => exact ⟨_, rfl, fun _ => ⟨by omega, hdis, by omega⟩, B2.out⟩
              · have ht' : (6 : Int) < nt := by omega
                go_wp2
                go_meet
                case rel => exact ⟨true, rfl, fun h => (by cases h), B2.out⟩
            · rw [decide_eq_false hdis]
              go_wp2
              go_meet
              case rel => exact ⟨true, rfl, fun h => (by cases h), B2.out⟩
      case rest =>
        obtain ⟨B, rfl, hB, hb⟩ := hcut
        clear d0 d1 d2
        have B2 := Lib.hid hb; clear hb
        cases B with
        | true =>
          clear hB
          go_wp2_with fail
          with_reducible refine (awake_any _).mono ?_
          rintro e w3 ⟨rfl, hb⟩
          have B3 := Lib.hid (B2.out.trans (hb.mono B2.out.size)); clear hb
          go_wp2
          go_ret
          exact ⟨rfl, HW.out.below B3.out⟩
        | false =>
          obtain ⟨hn5, hdis, hnt⟩ := hB rfl
          clear hB
          have H2 := Lib.hid (H0.out.below (HW.out.below B2.out))
          go_wp2
          go_loop [9, 59] (fun t i => ∃ (k : Nat) (tb : ByteArray), k ≤ n0 ∧ i = .int .i64 k ∧ t = .string tb ∧ Join tb k ∧ ∀ j, j < k → IsWord (f0 j)) (fun _ i => n0 - (intOf i).toNat)
          case atStart => exact ⟨0, ⟨#[]⟩, Nat.zero_le _, rfl, rfl, Join.start, fun j h => by omega⟩
          case round =>
            obtain ⟨k, tb, hk, rfl, rfl, hj, hws⟩ := hrel
            have HJ := Lib.hid hj
            have HWS := Lib.hid hws
            have hjs := hj.small
            clear hj hws
            by_cases hlt : k < n0
            · obtain ⟨b, off, rfl, _, hcell⟩ := H2.out.at k hlt
              have HSM : Hid ((f0 k).size ≤ maxLen) := Lib.hid (by have := HF2.out k hlt; unfold maxLen; omega)
              go_wp2_with fail
              with_reducible refine (isWord_any _ _ HSM.out).mono ?_
              rintro e w' ⟨r1, rfl, hr1, rfl⟩
              cases r1 with
              | false =>
                clear hr1
                go_wp2_with fail
                with_reducible refine (awake_any _).mono ?_
                rintro e w3 ⟨rfl, hb⟩
                have B3 := Lib.hid (B2.out.trans (hb.mono B2.out.size)); clear hb
                go_wp2
                go_ret
                exact ⟨rfl, HW.out.below B3.out⟩
              | true =>
                have hw := hr1.mp rfl
                have hw30 := hw.2.2
                have HWK := Lib.hid hw
                clear hr1 hw
                have HWS2 : Hid (∀ j, j < k + 1 → IsWord (f0 j)) := Lib.hid fun j hj => by
                  by_cases e : j = k
                  · subst e; exact HWK.out
                  · exact HWS.out j (by omega)
                generalize f0 k = pk at hcell hw30 HWK
                by_cases hk0 : k = 0
                · subst hk0
                  have HN := Lib.hid (HJ.out.first HWK.out)
                  have hl1 : ¬ 9223372036854775807 < tb.size + pk.size := by omega
                  go_wp2
                  go_round
                  case rel => exact ⟨1, _, by omega, by first | rfl | go_num, rfl, HN.out, HWS2.out⟩
                  case measure => simp [intOf]; omega
                · have hkp : (0 : Int) < k := by omega
                  have HN := Lib.hid (HJ.out.next HWK.out)
                  have hl1 : ¬ 9223372036854775807 < tb.size + 1 := by omega
                  have hs1 : (tb ++ (⟨#[47]⟩ : ByteArray)).size = tb.size + 1 := by rw [ByteArray.size_append]; rfl
                  have hl2 : ¬ 9223372036854775807 < (tb ++ (⟨#[47]⟩ : ByteArray)).size + pk.size := by omega
                  clear hs1
                  go_wp2
                  go_round
                  case rel => exact ⟨k + 1, _, by omega, by go_num, rfl, HN.out, HWS2.out⟩
                  case measure => simp [intOf]; omega
            · obtain rfl : k = n0 := by omega
              have hpos : 0 < k := by omega
              have HSJ : Hid (tb.size ≤ 10000) := Lib.hid (by omega)
              have HVV := Lib.hid (HV.out.below (HW.out.below B2.out))
              clear hjs
              go_wp2_with fail
              with_reducible refine (pathErr_any tb a msg _ HSJ.out HVV.out).mono ?_
              rintro e w3 ⟨L, r, hL, hb, rfl, hok, _⟩
              have hr0 := hok (HJ.out.ok hpos hL)
              have hre := isEmpty_str r hr0
              have B3 := Lib.hid (B2.out.trans (hb.mono B2.out.size))
              have HV3 := Lib.hid (HVV.out.below hb)
              clear hL hb hok hr0
              go_wp2_with fail
              with_reducible refine (pathErr_any ⟨#[]⟩ a msg _ (by decide) HV3.out).mono ?_
              rintro e w4 ⟨L, r', hL, hb, rfl, _, hok⟩
              have hr0 := hok (empty_not_ok rfl hL)
              have hre' := isEmpty_str_not r' hr0
              have B4 := Lib.hid (B3.out.trans (hb.mono B3.out.size))
              have HV4 := Lib.hid (HV3.out.below hb)
              clear hL hb hok hr0
              obtain ⟨d0, d1, d2⟩ := HW.out.cells B4.out
              have HA4 := Lib.hid (HH.out.below (HW.out.below B4.out))
              obtain ⟨hd1, hd2⟩ := hdis
              go_wp2_with fail
              with_reducible refine (disguise_any _ HA4.out.word _ _ _ _ _ _ _ _ _ _ hd1 hd2 HA4.out.caps HA4.out.igns HA4.out.small).mono ?_
              rintro e w5 ⟨rh, wh, rfl, hwh, hrh, _, hph, hb⟩
              have B5 := Lib.hid (B4.out.trans (hb.mono B4.out.size))
              have HPH := Lib.hid (hph rfl)
              have HWH := Lib.hid hwh
              clear hb hwh hph d0 d1 d2 hre hre'
              obtain ⟨d0, d1, d2⟩ := HW.out.cells B5.out
              have HA5 := Lib.hid (HH.out.below (HW.out.below B5.out))
              go_wp2_with fail
              with_reducible refine (disguise_any _ HA5.out.word _ _ _ _ _ _ _ _ _ _ hd1 hd2 HA5.out.caps HA5.out.igns HA5.out.small).mono ?_
              rintro e w6 ⟨rn, wn, rfl, hwn, hrn, hpn, _, hb⟩
              have B6 := Lib.hid (B5.out.trans (hb.mono B5.out.size))
              have HPN := Lib.hid (hpn rfl)
              have HWN := Lib.hid hwn
              clear hb hwn hpn d0 d1 d2
              have HR6 := Lib.hid (HR.out.below (HW.out.below B6.out))
              have HV6 := Lib.hid (HV.out.below (HW.out.below B6.out))
              go_wp2_with fail
              go_loop [14, 95] (fun o i => ∃ (q : Nat) (ob : ByteArray) (t : List Nat), q ≤ nt ∧ i = .int .i64 q ∧ o = .string ob ∧ ob.size ≤ 100 + q ∧ nb ob = nb rn ++ t ∧ ∀ c ∈ t, isPoint c = true) (fun _ i => nt - (intOf i).toNat)
              case atStart => exact ⟨0, rn, [], Nat.zero_le _, rfl, rfl, by omega, by simp, fun c h => (by cases h)⟩
              case round =>
                obtain ⟨q, ob, t, hq, rfl, rfl, hos, hob, ht⟩ := hrel
                have HOB := Lib.hid hob
                have HT := Lib.hid ht
                clear hob ht
                by_cases hlt2 : q < nt
                · obtain ⟨b1, off1, hAt, hb1, hcell⟩ := HR6.out q hlt2
                  obtain rfl := hAt
                  have hcell' : w6.cell? ⟨b1, off1 + q, none⟩ = some (.bool (ft q)) := hcell
                  clear hcell
                  generalize ft q = bt at hcell'
                  have hl1 : ¬ 9223372036854775807 < ob.size + 1 := by omega
                  cases bt with
                  | true =>
                    go_wp2
                    go_round
                    case rel => exact ⟨q + 1, _, t ++ [46], by omega, by go_num, rfl, by rw [ByteArray.size_append]; show ob.size + 1 ≤ _; omega, by rw [nb_append, HOB.out, List.append_assoc]; rfl, fun c hc => by rcases List.mem_append.mp hc with hc | hc; exact HT.out c hc; rw [List.mem_singleton] at hc; subst hc; rfl⟩
                    case measure => simp [intOf]; omega
                  | false =>
                    go_wp2
                    go_round
                    case rel => exact ⟨q + 1, _, t ++ [32], by omega, by go_num, rfl, by rw [ByteArray.size_append]; show ob.size + 1 ≤ _; omega, by rw [nb_append, HOB.out, List.append_assoc]; rfl, fun c hc => by rcases List.mem_append.mp hc with hc | hc; exact HT.out c hc; rw [List.mem_singleton] at hc; subst hc; rfl⟩
                    case measure => simp [intOf]; omega
                · go_upto_region 27 with (fail)
                  have HBN : Hid (lowS (nb rn) = dotGit ∨ lowS (nb rn) = gitOne → Bad ob) := Lib.hid fun h => bad_ntfs HOB.out (by omega) HT.out h
                  have HBH : Hid (nb wh = dotGit → Bad rh) := Lib.hid fun h => bad_hfs hrh (HPH.out.trans h)
                  have HWW : Hid (nb wn = nb wh) := Lib.hid (HWN.out.trans HWH.out.symm)
                  have HO7 := Lib.hid (own_built w6 #[.string ⟨#[46]⟩, .string ⟨#[46, 46]⟩, .string ⟨#[97, 1]⟩, .string ⟨#[97, 127]⟩] [⟨#[46]⟩, ⟨#[46, 46]⟩, ⟨#[97, 1]⟩, ⟨#[97, 127]⟩] rfl (by decide))
                  have HB7 := Lib.hid ((Below.refl w6.heap.size w6).alloc (Nat.le_refl _) (.cells #[.string ⟨#[46]⟩, .string ⟨#[46, 46]⟩, .string ⟨#[97, 1]⟩, .string ⟨#[97, 127]⟩] 9))
                  generalize w6.alloc _ = W7 at HO7 HB7 ⊢
                  have hq1 := beq_str wh [46, 103, 105, 116]
                  have hq2 := beq_str wh [103, 105, 116, 126, 49]
                  rw [show ([46, 103, 105, 116] : List UInt8).map UInt8.toNat = dotGit from rfl] at hq1
                  rw [show ([103, 105, 116, 126, 49] : List UInt8).map UInt8.toNat = gitOne from rfl] at hq2
                  generalize hD1 : (nb wh == dotGit) = D1 at hq1
                  generalize hD2 : (nb wh == gitOne) = D2 at hq2
                  have HD1 := Lib.hid hD1
                  have HD2 := Lib.hid hD2
                  clear hD1 hD2
                  go_cut [111] (fun v wx => v = .bool (D1 || D2) ∧ wx = W7)
                  case first =>
                    cases D1 <;> cases D2
                    all_goals
                      go_wp2
                      go_meet
                      case rel => exact ⟨rfl, rfl⟩
                  case rest =>
                    obtain ⟨rfl, rfl⟩ := hcut
                    clear hq2
                    have hos2 : ob.size ≤ 106 := by omega
                    go_upto_if 111 with (fail)
                    go_cut [18] (fun v wx => ∃ L : List ByteArray, Own wx w6.heap.size v L ∧ (∀ b ∈ L, Bad b) ∧ L.length ≤ 5 ∧ Below w6.heap.size w6 wx)
                    case first =>
                      cases hDD : (D1 || D2)
                      · go_wp2
                        go_meet
                        case rel => exact ⟨_, HO7.out, fun b hb => by simp at hb; rcases hb with rfl | rfl | rfl | rfl; exact bad_point; exact bad_points; exact bad_one; exact bad_del, by decide, HB7.out⟩
                      · have HB8 : Hid (Bad ob) := Lib.hid (HBN.out (by
                          rw [HPN.out, HWW.out]
                          rcases (Bool.or_eq_true _ _).mp hDD with h | h
                          · left; have := HD1.out; rw [h] at this; exact beq_iff_eq.mp this
                          · right; have := HD2.out; rw [h] at this; exact beq_iff_eq.mp this))
                        go_wp2_with (at_builtin; refine wpList_append_lies _ rfl (.tmp 112) (.tmp 114) 22 rfl w6.heap.size 9 i0 (.string ⟨#[]⟩) 1 16 strsKind hi hz0 hz1 hz2 rfl (by decide) _ _ _ rfl (World.ownsRow.alloc HO7.out _) ⟨wc.heap.size, 0, none⟩ 1 1 [.string ob] rfl rfl (news_str _ _) (one_str _) (by decide) ?c3 ?c4 ?c5 _ rfl ?_)
                        case c3 => show 4 + 1 ≤ maxLen; unfold maxLen; omega
                        case c5 => have := HB7.out.size; first | omega | (rw [heap_new_size]; omega)
                        intro gg cap2 w8 hown8 hgrow _ _
                        have R : Hid (Own w8 w6.heap.size (.slice (some ⟨gg, 0, none⟩) 5 cap2) [⟨#[46]⟩, ⟨#[46, 46]⟩, ⟨#[97, 1]⟩, ⟨#[97, 127]⟩, ob]) := Lib.hid hown8
                        have RB := Lib.hid ((HB7.out.alloc HB7.out.size _).grown hgrow (by have := HB7.out.size; rw [heap_new_size]; omega) (fun q e => (HO7.out.lt q e).1))
                        clear hown8 hgrow
                        go_wp2
                        go_meet
                        case rel => exact ⟨_, R.out, fun b hb => by simp at hb; rcases hb with rfl | rfl | rfl | rfl | rfl; exact bad_point; exact bad_points; exact bad_one; exact bad_del; exact HB8.out, Nat.le_refl 5, RB.out⟩
                    case rest =>
                      obtain ⟨L8, hL8, hbad8, hlen8, hb8⟩ := hcut
                      have HL8 := Lib.hid hL8
                      have HBAD8 := Lib.hid hbad8
                      have HB8 := Lib.hid hb8
                      clear hL8 hbad8 hb8
                      go_upto_if 117 with (fail)
                      go_cut [18] (fun v wx => ∃ L : List ByteArray, Own wx w6.heap.size v L ∧ (∀ b ∈ L, Bad b) ∧ L.length ≤ 6 ∧ Below w6.heap.size w6 wx)
                      case first =>
                        cases D1 with
                        | false =>
                          go_wp2
                          go_meet
                          case rel => exact ⟨_, HL8.out, HBAD8.out, by omega, HB8.out⟩
                        | true =>
                          have HBR : Hid (Bad rh) := Lib.hid (HBH.out (beq_iff_eq.mp HD1.out))
                          go_upto_region 30 with (fail)
                          go_wp2_with (at_builtin; refine wpList_append_lies _ rfl (.tmp 118) (.tmp 120) 22 rfl w6.heap.size 9 i0 (.string ⟨#[]⟩) 1 16 strsKind hi hz0 hz1 hz2 rfl (by decide) _ _ _ rfl (World.ownsRow.alloc HL8.out _) ⟨wc.heap.size, 0, none⟩ 1 1 [.string rh] rfl rfl (news_str _ _) (one_str _) (by decide) ?d3 ?d4 ?d5 _ rfl ?_)
                          case d3 => unfold maxLen; omega
                          case d4 => omega
                          case d5 => have := HB8.out.size; first | omega | (rw [heap_new_size]; omega)
                          intro gg cap2 w8 hown8 hgrow _ _
                          have R := Lib.hid (Own.more hown8)
                          have RB := Lib.hid ((HB8.out.alloc HB8.out.size _).grown hgrow (by have := HB8.out.size; rw [heap_new_size]; omega) (fun q e => (HL8.out.lt q e).1))
                          clear hown8 hgrow
                          go_wp2
                          go_meet
                          case rel => exact ⟨_, R.out, fun b hb => (by rcases List.mem_append.mp hb with hb | hb; exact HBAD8.out b hb; rw [List.mem_singleton] at hb; subst hb; exact HBR.out), by rw [List.length_append]; show L8.length + 1 ≤ 6; omega, RB.out⟩
                      case rest =>
                        obtain ⟨L9, hL9, hbad9, hlen9, hb9⟩ := hcut
                        have B9 := Lib.hid (B6.out.trans (hb9.mono B6.out.size))
                        obtain ⟨A9, c9, rfl, _, hst9⟩ := hL9.strs
                        have HST9 := Lib.hid hst9
                        have HBAD9 := Lib.hid hbad9
                        have H9 := Lib.hid (H0.out.below (HW.out.below B9.out))
                        have HV9 := Lib.hid (HV.out.below (HW.out.below B9.out))
                        clear hL9 hbad9 hb9 hst9 hq1
                        go_upto_region 31 with (fail)
                        have hm : at0 % (k + 1) < k + 1 := Nat.mod_lt _ (by omega)
                        go_cut [19] (fun v wx => v = .int .i64 ((at0 % (k + 1) : Nat) : Int) ∧ wx = wc)
                        case first =>
                          have hz : (((k : Int) + 1) == 0) = false := by simp; omega
                          have hrem : Int.tmod (at0 : Int) ((k : Int) + 1) = ((at0 % (k + 1) : Nat) : Int) := by rw [Int.tmod_eq_emod_of_nonneg (by omega)]; push_cast; rfl
                          go_wp2
                          go_meet
                          case rel => exact ⟨by first | rfl | (congr 1; omega) | (rw [hrem]), rfl⟩
                        case rest =>
                          obtain ⟨rfl, rfl⟩ := hcut
                          generalize at0 % (k + 1) = m at hm ⊢
                          go_wp2
                          go_loopw [130] (fun i wr => ∃ q : Nat, q ≤ L9.length ∧ i = .int .i64 q ∧ Below wc.heap.size wc wr) (fun i _ => L9.length - (intOf i).toNat)
                          case atStart => exact ⟨0, Nat.zero_le _, rfl, Below.refl _ _⟩
                          case round =>
                            obtain ⟨q, hq, rfl, hbel⟩ := hrel
                            have BR := Lib.hid (B9.out.trans (hbel.mono B9.out.size))
                            have HVR := Lib.hid (HV9.out.below hbel)
                            have HR9 := Lib.hid (H9.out.below hbel)
                            have HBEL := Lib.hid hbel
                            by_cases hql : q < L9.length
                            · obtain ⟨b9, o9, rfl, _, hc9⟩ := (HST9.out.below hbel).at q hql
                              have hbad : Bad (L9.getD q ⟨#[]⟩) := by
                                rw [List.getD_eq_getElem?_getD, List.getElem?_eq_getElem hql]; exact HBAD9.out _ (List.getElem_mem _)
                              generalize L9.getD q ⟨#[]⟩ = bq at hc9 hbad
                              have hbs := hbad.small
                              have HBQ := Lib.hid hbad
                              clear hbel hbad
                              go_upto_region 35 with (fail)
                              clear hc9
                              go_wp2
                              go_loop [22, 23] (fun t i => ∃ (j : Nat) (tj : ByteArray), j ≤ k + 1 ∧ i = .int .i64 j ∧ t = .string tj ∧ Txt tj j m) (fun _ i => k + 1 - (intOf i).toNat)
                              case atStart => exact ⟨0, ⟨#[]⟩, Nat.zero_le _, rfl, rfl, Txt.start m⟩
                              case round =>
                                obtain ⟨j, tj, hj, rfl, rfl, htxt⟩ := hrel
                                have hts := htxt.small
                                have HTX := Lib.hid htxt; clear htxt
                                by_cases hjl : j ≤ k
                                · have hs1 : (tj ++ (⟨#[47]⟩ : ByteArray)).size = tj.size + 1 := by rw [ByteArray.size_append]; rfl
                                  have hl1 : ¬ 9223372036854775807 < tj.size + 1 := by omega
                                  by_cases hjm : j < m
                                  · obtain ⟨b1, o1, rfl, _, hc1⟩ := HR9.out.at j (by omega)
                                    have HWJ := Lib.hid (HWS.out j (by omega))
                                    have hw30 := HWJ.out.2.2
                                    generalize f0 j = pj at hc1 HWJ hw30
                                    by_cases hj0 : j = 0
                                    · subst hj0
                                      have hc1' : wr.cell? ⟨b1, o1, none⟩ = some (.string pj) := hc1
                                      have HN := Lib.hid (HTX.out.word0 HWJ.out hjm)
                                      have hl2 : ¬ 9223372036854775807 < tj.size + pj.size := by omega
                                      go_wp2
                                      go_round
                                      case rel => exact ⟨1, _, by omega, by first | rfl | go_num, rfl, HN.out⟩
                                      case measure => simp [intOf] <;> omega
                                    · have hjp : (0 : Int) < j := by omega
                                      have HN := Lib.hid (HTX.out.word HWJ.out (by omega))
                                      have hl2 : ¬ 9223372036854775807 < (tj ++ (⟨#[47]⟩ : ByteArray)).size + pj.size := by omega
                                      clear hs1
                                      go_wp2
                                      go_round
                                      case rel => exact ⟨j + 1, _, by omega, by go_num, rfl, HN.out⟩
                                      case measure => simp [intOf] <;> omega
                                  · by_cases hjm2 : j = m
                                    · subst hjm2
                                      by_cases hj0 : j = 0
                                      · subst hj0
                                        have HN := Lib.hid (HTX.out.bad0 HBQ.out)
                                        have hl2 : ¬ 9223372036854775807 < tj.size + bq.size := by omega
                                        go_wp2
                                        go_round
                                        case rel => exact ⟨1, _, by omega, by first | rfl | go_num, rfl, HN.out⟩
                                        case measure => simp [intOf] <;> omega
                                      · have hjp : (0 : Int) < j := by omega
                                        have HN := Lib.hid (HTX.out.bad HBQ.out)
                                        have hl2 : ¬ 9223372036854775807 < (tj ++ (⟨#[47]⟩ : ByteArray)).size + bq.size := by omega
                                        clear hs1
                                        go_wp2
                                        go_round
                                        case rel => exact ⟨j + 1, _, by omega, by go_num, rfl, HN.out⟩
                                        case measure => simp [intOf] <;> omega
                                    · have hjm3 : (m : Int) < j := by omega
                                      obtain ⟨j', rfl⟩ : ∃ j', j = j' + 1 := ⟨j - 1, by omega⟩
                                      obtain ⟨b1, o1, rfl, _, hc1⟩ := HR9.out.at j' (by omega)
                                      have HWJ := Lib.hid (HWS.out j' (by omega))
                                      have hw30 := HWJ.out.2.2
                                      generalize f0 j' = pj at hc1 HWJ hw30
                                      have HN := Lib.hid (HTX.out.word HWJ.out (by omega))
                                      have hl2 : ¬ 9223372036854775807 < (tj ++ (⟨#[47]⟩ : ByteArray)).size + pj.size := by omega
                                      clear hs1
                                      go_wp2
                                      go_round
                                      case rel => exact ⟨j' + 2, _, by omega, by go_num, rfl, HN.out⟩
                                      case measure => simp [intOf] <;> omega
                                · obtain rfl : j = k + 1 := by omega
                                  have HREF := Lib.hid (HTX.out.ref hm)
                                  have HTS : Hid (tj.size ≤ 10000) := Lib.hid (by omega)
                                  go_wp2_with fail
                                  with_reducible refine (pathErr_any tj a msg _ HTS.out HVR.out).mono ?_
                                  rintro e w10 ⟨L, r', hL, hb, rfl, _, hok⟩
                                  have hr0 := hok (HREF.out.not_ok hL)
                                  have hre' := isEmpty_str_not r' hr0
                                  have HB10 := Lib.hid (HBEL.out.trans (hb.mono HBEL.out.size))
                                  clear hL hb hok hr0
                                  go_wp2
                                  go_roundw
                                  case rel => exact ⟨q + 1, by omega, by go_num, HB10.out⟩
                                  case measure => simp [intOf] <;> omega
                            · clear hbel
                              go_wp2_with fail
                              with_reducible refine (awake_any _).mono ?_
                              rintro e w11 ⟨rfl, hb⟩
                              have B11 := Lib.hid (BR.out.trans (hb.mono BR.out.size)); clear hb
                              go_wp2
                              go_ret
                              exact ⟨rfl, HW.out.below B11.out⟩
end Go.Proofs.YtdmkjfkdjhmpjaaDoor
