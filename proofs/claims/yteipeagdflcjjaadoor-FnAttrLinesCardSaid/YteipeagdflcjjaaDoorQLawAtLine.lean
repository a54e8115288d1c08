/- FnAttrLine: the walk. -/
import Derived.Test.YteipeagdflcjjaaDoorQAtT
import Derived.BigQuiet
namespace Go.Proofs.YteipeagdflcjjaaDoor
open Go.RowKit
set_option linter.unusedSimpArgs false
set_option linter.unusedVariables false

def SpOk (sp : ByteArray) : Prop := nb sp ≠ [] ∧ (∀ c ∈ nb sp, isBl c = true) ∧ sp.size ≤ 4
theorem spOk (r : Nat) (h : r < 4) : SpOk ((⟨#[32, 9, 32, 32]⟩ : ByteArray).extract 0 (r + 1)) := by
  have : r = 0 ∨ r = 1 ∨ r = 2 ∨ r = 3 := by omega
  unfold SpOk
  rcases this with rfl | rfl | rfl | rfl <;> decide
/-- What the pattern and the attributes are, where the law speaks. -/
def LinePre (n0 : Nat) (f0 : Nat → ByteArray) (n1 : Nat) (g1 : Nat → AttrT) : Prop := (1 ≤ n0 ∧ n0 ≤ 4 ∧ ∀ i, i < n0 → PartOk n0 (f0 i)) ∧ AreP n1 g1
theorem LinePre.parts {n0 : Nat} {f0 : Nat → ByteArray} {n1 : Nat} {g1 : Nat → AttrT} (h : LinePre n0 f0 n1 g1) : 1 ≤ n0 ∧ n0 ≤ 4 ∧ ∀ i, i < n0 → PartOk n0 (f0 i) := by unfold LinePre at h; exact h.1
theorem LinePre.atts {n0 : Nat} {f0 : Nat → ByteArray} {n1 : Nat} {g1 : Nat → AttrT} (h : LinePre n0 f0 n1 g1) : 1 ≤ n1 ∧ n1 ≤ 5 ∧ ∀ i, i < n1 → GoodA (g1 i) := by unfold LinePre AreP at h; exact ⟨h.2.1, h.2.2.1, h.2.2.2.1⟩
theorem line_fields {t line sp : ByteArray} {f0 : Nat → ByteArray} {b2 : Bool} {n0 n1 : Nat} {g1 : Nat → AttrT} (h : LinePre n0 f0 n1 g1) (ht : nb t = gt f0 b2 n0) (hts : t.size ≤ 100) (hsp : SpOk sp) (hl : nb line = lineL (gt f0 b2 n0) (nb sp) g1 n1) :
    line.size ≤ 5000 ∧ 1 ≤ line.size ∧ (33 ≤ bx line 0 ∧ bx line 0 ≠ 34 ∧ bx line 0 ≠ 35) ∧ 33 ≤ bx line (line.size - 1) ∧
    fieldsN (nb line) = (t :: (List.range n1).map fun i => bs (gaText (g1 i))).map nb ∧ pre t ⟨#[91, 97, 116, 116, 114, 93]⟩ = false := by
  obtain ⟨⟨p1, p4, hp⟩, q1, q5, hq, _⟩ := h
  have hr := gt_range f0 b2 n0 n0 hp
  have hne := gt_ne f0 b2 n0 n0 p1 hp
  have hlen := line_len (gt f0 b2 n0) (nb sp) g1 n1 hq
  have hglen : (gt f0 b2 n0).length ≤ 100 := by rw [← ht, nb_length]; exact hts
  have hsl : (nb sp).length ≤ 4 := by rw [nb_length]; exact hsp.2.2
  have hsz : line.size = (lineL (gt f0 b2 n0) (nb sp) g1 n1).length := size_of hl
  have hlo := line_of (gt f0 b2 n0) (nb sp) g1 hne (fun c hc => by have := hr c hc; omega) hsp.1 hsp.2.1 n1 hq
  obtain ⟨m, rfl⟩ : ∃ m, n1 = m + 1 := ⟨n1 - 1, by omega⟩
  have hlast := line_last (gt f0 b2 n0) (nb sp) g1 m (hq m (by omega))
  have hm5 : (m + 1) * ((nb sp).length + 62) ≤ 5 * 66 := Nat.mul_le_mul (by omega) (by omega)
  have hpos : 0 < (gt f0 b2 n0).length := List.length_pos_iff.mpr hne
  have hhead : bx line 0 ∈ gt f0 b2 n0 := by
    rw [bx_eq hl, line_head _ _ _ hne, List.getD_eq_getElem?_getD, List.getElem?_eq_getElem hpos, Option.getD_some]
    exact List.getElem_mem hpos
  have h0 := hr _ hhead
  have hlast2 : 33 ≤ bx line (line.size - 1) := by rw [hsz, bx_eq hl]; exact hlast
  have hszpos : 1 ≤ line.size := by
    rcases Nat.eq_zero_or_pos line.size with h | h
    · rw [h] at hlast2
      have : bx line 0 = 0 := by unfold bx; rw [nb_nil h]; rfl
      omega
    · exact h
  refine ⟨by omega, hszpos, ⟨by omega, by omega, by omega⟩, hlast2, ?_, pre_attr fun c hc => ?_⟩
  · rw [hl, hlo.fields, List.map_cons, ht, List.map_map]
    congr 1
    refine List.map_congr_left fun i hi => ?_
    exact (nb_bs _ fun c hc => by have := gaText_range (hq i (List.mem_range.mp hi)) c hc; omega).symm
  · rw [ht] at hc; have := hr c hc; omega

theorem outsV_at (att : Nat → AttrT) (n k j : Nat) (hk : k < n) (hj : j < 3) : (outsV att n)[k * 3 + j]? = (out3 (att k))[j]? := by
  have hlen : ∀ m, (outsV att m).length = m * 3 := by
    intro m
    induction m with
    | zero => rfl
    | succ m ih => rw [outsV_succ, List.length_append, ih]; simp [out3]; omega
  induction n with
  | zero => omega
  | succ n ih =>
    rw [outsV_succ]
    by_cases h : k = n
    · subst h
      rw [List.getElem?_append_right (by rw [hlen]; omega), hlen]
      congr 1; omega
    · rw [List.getElem?_append_left (by rw [hlen]; have : (k + 1) * 3 ≤ n * 3 := Nat.mul_le_mul_right 3 (by omega); omega)]
      exact ih (by omega)
theorem ownsRow_below3 {w w1 : World} {B z : Nat} {e : TypeId} {v : Value} {k : Nat} {xs : List Value} (h : w.ownsRow B e z v k xs) (hb : Below w.heap.size w w1) : w1.ownsRow B e z v k xs := by
  refine ⟨h.1, ?_⟩
  rcases h.2 with hn | ⟨g, cap, cur, rfl, hbg, hgg, rest⟩
  · exact .inl hn
  · exact .inr ⟨g, cap, cur, rfl, hbg, by rw [hb.block g (Array.getElem?_eq_some_iff.1 hgg).1]; exact hgg, rest⟩
/-- The line read. -/
theorem readLine_any {t line sp : ByteArray} {f0 : Nat → ByteArray} {b2 : Bool} {n0 n1 : Nat} {g1 : Nat → AttrT} (h : LinePre n0 f0 n1 g1) (ht : nb t = gt f0 b2 n0) (hts : t.size ≤ 100) (hsp : SpOk sp) (hl : nb line = lineL (gt f0 b2 n0) (nb sp) g1 n1) (allow : Bool) (w : World) :
    Calls Tryd.prog 26 #[.string line, .slice none 0 0, .bool allow] w (OutPost t n1 (fun i => readOf (g1 i)) w) := by
  obtain ⟨z1, z2, z3, z4, z5, z6⟩ := line_fields h ht hts hsp hl
  have hlen : ((List.range n1).map fun i => bs (gaText (g1 i))).length = n1 := by rw [List.length_map, List.length_range]
  have ha := h.atts
  have hg : ∀ i, i < n1 → ((List.range n1).map fun i => bs (gaText (g1 i))).getD i ⟨#[]⟩ = bs (gaText (g1 i)) := fun i hi => by
    rw [List.getD_eq_getElem?_getD, List.getElem?_map, List.getElem?_range hi]; rfl
  have := attrLine_any line t _ (fun i => readOf (g1 i)) allow w z1 z2 z3 z4 z5 (by rw [hlen]; omega) (by rw [hlen]; omega) (by omega) z6
    (fun i hi => by
      rw [hlen] at hi
      rw [hg i hi]
      exact gaText_read (ha.2.2 i hi) (nb_bs _ fun c hc => by have := gaText_range (ha.2.2 i hi) c hc; omega))
    (fun i hi => word_okN (ha.2.2 i (by rw [hlen] at hi; exact hi)).1)
  rw [hlen] at this
  exact this

set_option maxRecDepth 100000 in
set_option maxHeartbeats 4000000 in
theorem lawAtLine_any (A0 A1 : Option Addr) (n0 c0 n1 c1 : Nat) (f0 : Nat → ByteArray) (g1 : Nat → AttrT) (b1 b2 b3 : Bool) (x : Nat) (w : World)
    (m0 : n0 ≤ maxLen) (h0 : Strs w A0 n0 f0) (m1 : n1 ≤ c1) (m1c : c1 ≤ maxLen) (h1 : GAs w A1 n1 g1) (hx : x < 256) :
    Calls Tryd.prog 4 #[.agg #[.slice A0 n0 c0, .bool b1, .bool b2, .bool b3], .slice A1 n1 c1, .int .u8 (x : Nat)] w (TrueBelow w) := by
  have H0 := Lib.hid h0; clear h0
  have H1 := Lib.hid h1; clear h1
  go_enter Tryd.func4, Tryd.ntmps4
  go_upto_region 1 with (fail)
  generalize hW : w.alloc _ = W
  have hW2 : PBox w W A0 n0 c0 b1 b2 b3 := by subst hW; exact PBox.new w A0 n0 c0 b1 b2 b3
  clear hW
  have HW := Lib.hid hW2
  obtain ⟨d0, d1, d2, d3⟩ := hW2.cells (Below.refl _ _)
  clear hW2
  go_cut [24] (fun v wx => ∃ B : Bool, v = .bool B ∧ (B = false → (n0 ≤ 2147483647 ∧ ∀ i, i < n0 → (f0 i).size ≤ 2147483647) ∧ F29 n1 g1) ∧ Below W.heap.size W wx)
  case first =>
    go_wp2_with fail
    with_reducible refine (fits28_any _ _ _ f0 _ _ _ _ m0 (H0.out.below HW.out.bel)).mono ?_
    rintro e w1 ⟨r1, rfl, hr1, hb⟩
    have HB := Lib.hid hb; clear hb
    have HR1 := Lib.hid hr1; clear hr1
    cases r1 with
    | false =>
      go_wp2
      go_meet
      case rel => exact ⟨true, rfl, fun h => (by cases h), HB.out⟩
    | true =>
      have HG := Lib.hid (H1.out.below (HW.out.below HB.out))
      go_wp2_with fail
      with_reducible refine (fits29_any _ _ _ g1 _ (Nat.le_trans m1 m1c) HG.out).mono ?_
      rintro e w2 ⟨r2, rfl, hr2, hb⟩
      have HR2 := Lib.hid hr2; clear hr2
      have HB2 := Lib.hid (HB.out.trans (hb.mono HB.out.size)); clear hb
      cases r2 with
      | false =>
        go_wp2
        go_meet
        case rel => exact ⟨true, rfl, fun h => (by cases h), HB2.out⟩
      | true =>
        go_wp2
        go_meet
        case rel => exact ⟨false, rfl, fun _ => ⟨(by first | exact HR1.out rfl | exact HR1.out trivial), (by first | exact HR2.out rfl | exact HR2.out trivial)⟩, HB2.out⟩
  case rest =>
    obtain ⟨B, rfl, hB, hb⟩ := hcut
    clear d0 d1 d2 d3
    have B1 := Lib.hid hb; clear hb
    cases B with
    | true =>
      clear hB
      go_wp2
      go_ret
      exact ⟨rfl, HW.out.below B1.out⟩
    | false =>
      obtain ⟨⟨s0, hs0⟩, ⟨s1, hs1⟩⟩ := hB rfl
      have HS0 := Lib.hid hs0; have HS1 := Lib.hid hs1
      clear hB hs0 hs1
      obtain ⟨d0, d1, d2, d3⟩ := HW.out.cells B1.out
      go_upto_region 3 with (fail)
      go_cut [40] (fun v wx => ∃ B : Bool, v = .bool B ∧ (B = false → LinePre n0 f0 n1 g1 ∧ b1 = false ∧ b3 = false) ∧ Below W.heap.size W wx)
      case first =>
        go_wp2_with fail
        with_reducible refine (isGlob_any _ _ _ f0 _ _ _ _ s0 (H0.out.below (HW.out.below B1.out)) HS0.out).mono ?_
        rintro e w1 ⟨r1, rfl, hr1, hb⟩
        have B2 := Lib.hid (B1.out.trans (hb.mono B1.out.size)); clear hb
        have HR1 := Lib.hid hr1; clear hr1 d0 d1 d2 d3
        obtain ⟨d0, d1, d2, d3⟩ := HW.out.cells B2.out
        cases r1 with
        | false =>
          go_wp2
          go_meet
          case rel => exact ⟨true, rfl, fun h => (by cases h), B2.out⟩
        | true =>
          cases b1 with
          | true =>
            go_wp2
            go_meet
            case rel => exact ⟨true, rfl, fun h => (by cases h), B2.out⟩
          | false =>
            cases b3 with
            | true =>
              go_wp2
              go_meet
              case rel => exact ⟨true, rfl, fun h => (by cases h), B2.out⟩
            | false =>
              have HG := Lib.hid (H1.out.below (HW.out.below B2.out))
              go_wp2_with fail
              with_reducible refine (areGlob_any _ _ _ g1 _ s1 m1 m1c HG.out).mono ?_
              rintro e w2 ⟨r2, rfl, hr2, hb⟩
              have HR2 := Lib.hid hr2; clear hr2
              have B3 := Lib.hid (B2.out.trans (hb.mono B2.out.size)); clear hb
              cases r2 with
              | false =>
                go_wp2
                go_meet
                case rel => exact ⟨true, rfl, fun h => (by cases h), B3.out⟩
              | true =>
                go_wp2
                go_meet
                case rel => exact ⟨_, rfl, fun _ => ⟨⟨(by first | exact HR1.out rfl | exact HR1.out trivial), (by first | exact HR2.out rfl | exact HR2.out trivial)⟩, (by first | rfl | trivial), (by first | rfl | trivial)⟩, B3.out⟩
      case rest =>
        obtain ⟨B, rfl, hB, hb⟩ := hcut
        clear d0 d1 d2 d3
        have B2 := Lib.hid hb; clear hb
        cases B with
        | true =>
          clear hB
          go_wp2_with fail
          with_reducible refine (awake_any _).mono ?_
          rintro e w3 ⟨rfl, hb⟩
          have B3 := Lib.hid (B2.out.trans (hb.mono B2.out.size)); clear hb
          go_wp2
          go_ret
          exact ⟨rfl, HW.out.below B3.out⟩
        | false =>
          obtain ⟨hpre, rfl, rfl⟩ := hB rfl
          have HP := Lib.hid hpre
          clear hB hpre
          go_upto_region 5 with (fail)
          go_cut [7] (fun v wz => ∃ sp : ByteArray, v = .string sp ∧ SpOk sp ∧ wz = wc)
          case first =>
            have hx4 : x % 4 < 4 := Nat.mod_lt _ (by decide)
            have hxm : Int.tmod (x : Int) 4 = ((x % 4 : Nat) : Int) := by rw [Int.ofNat_tmod]; rfl
            generalize x % 4 = r at hx4 hxm
            clear HW HP B2 B1 HS0 HS1 H0 H1 s0 s1 m0 m1 m1c
            go_wp2
            go_meet
            case rel => exact ⟨_, rfl, spOk r hx4, rfl⟩
          case rest =>
            obtain ⟨sp, rfl, hsp, rfl⟩ := hcut
            have HSP := Lib.hid hsp
            clear hsp
            obtain ⟨d0, d1, d2, d3⟩ := HW.out.cells B2.out
            go_wp2_with fail
            with_reducible refine (globText_any _ _ _ f0 b2 false _ HP.out.parts.2.1 (H0.out.below (HW.out.below B2.out)) HP.out.parts.2.2).mono ?_
            rintro e w3 ⟨t, rfl, ht, hts, hb⟩
            have HT : Hid (nb t = gt f0 b2 n0) := Lib.hid (ht.trans (List.append_nil _))
            have HTS := Lib.hid hts
            have B3 := Lib.hid (B2.out.trans (hb.mono B2.out.size))
            clear hb ht hts d0 d1 d2 d3
            generalize hgL : gt f0 b2 n0 = gL at HT
            have HGL := Lib.hid hgL
            clear hgL
            have hn5 : n1 ≤ 5 := HP.out.atts.2.1
            go_upto_region 8 with (fail)
            go_loopw [8, 50] (fun v i wr => ∃ (k : Nat) (l : ByteArray), k ≤ n1 ∧ i = .int .i64 (k : Nat) ∧ v = .string l ∧ nb l = lineL gL (nb sp) g1 k ∧ Below W.heap.size W wr) (fun _ i _ => n1 - (intOf i).toNat)
            case atStart => exact ⟨0, t, Nat.zero_le _, rfl, rfl, HT.out, B3.out⟩
            case round =>
              obtain ⟨k, l, hk, rfl, rfl, hl, hb⟩ := hrel
              have HL := Lib.hid hl; have B4 := Lib.hid hb
              clear hl hb
              by_cases hlt : k < n1
              · have hltI : (k : Int) < n1 := by omega
                obtain ⟨b, off, rfl, _, k0, k1, k2, _⟩ := (H1.out.below (HW.out.below B4.out)) k hlt
                have HLN : Hid (l.size ≤ 100 + 5 * 66) := Lib.hid (by
                  have h1 := line_len gL (nb sp) g1 k fun i hi => HP.out.atts.2.2 i (by omega)
                  rw [← HL.out, nb_length, ← HT.out, nb_length, nb_length] at h1
                  have h2 := HTS.out; have h3 := HSP.out.2.2
                  have h4 : k * (sp.size + 62) ≤ 5 * 66 := Nat.mul_le_mul (by omega) (by omega)
                  omega)
                have HGA := Lib.hid (HP.out.atts.2.2 k hlt)
                have HLE : Hid (lineL gL (nb sp) g1 (k + 1) = nb l ++ (nb sp ++ gaText (g1 k))) := Lib.hid (by rw [HL.out]; rfl)
                generalize g1 k = a at k0 k1 k2 HGA HLE
                obtain ⟨a1, a2, a3⟩ := a
                dsimp only at k0 k1 k2
                have hz1 : a1.size ≤ 1000 := by have h3 : a1.size ≤ 30 := HGA.out.1.2.2; omega
                have hz3 : a3.size ≤ 1000 := by
                  by_cases h : a2 = 3
                  · have h3 : a3.size ≤ 30 := (HGA.out.2.2.1 h).2.2; omega
                  · have h3 : a3.size = 0 := HGA.out.2.2.2 h; omega
                go_wp2_with fail
                with_reducible refine (globAttr_any a1 a2 a3 _ hz1 hz3).mono ?_
                rintro e w5 ⟨s, rfl, hs, hb⟩
                have HS := Lib.hid hs
                have B5 : Hid (Below W.heap.size W w5) := Lib.hid ((B4.out.alloc B4.out.size _).trans (hb.mono (by rw [heap_new_size]; have := B4.out.size; omega)))
                clear hb hs k0 k1 k2
                have q1 : s.size ≤ 62 := by rw [size_of HS.out]; exact (gaText_len HGA.out).2
                have q2 : sp.size ≤ 4 := HSP.out.2.2
                have q3 : l.size ≤ 430 := HLN.out
                have q4 : ¬ 9223372036854775807 < sp.size + s.size := by omega
                have q5 : ¬ 9223372036854775807 < l.size + (sp ++ s).size := by rw [ByteArray.size_append]; omega
                go_wp2
                go_roundw
                case rel => exact ⟨k + 1, _, by omega, by go_num, rfl, by rw [nb_append, nb_append, HLE.out, HS.out], B5.out⟩
                case measure => simp [intOf]; omega
              · obtain rfl : k = n1 := by omega
                have HLI : Hid (nb l = lineL (gt f0 b2 n0) (nb sp) g1 k) := Lib.hid (by rw [HGL.out]; exact HL.out)
                have HRL := Lib.hid (fun V => readLine_any HP.out (HT.out.trans HGL.out.symm) HTS.out HSP.out HLI.out false V)
                clear HLI HL
                go_wp2_with fail
                with_reducible refine (HRL.out _).mono ?_
                rintro e w6 ⟨v, rfl, hown, hb⟩
                have HOWN := Lib.hid hown
                have B6 := Lib.hid (B4.out.trans (hb.mono B4.out.size))
                have hk1 : 0 < k := by have := HP.out.atts.1; omega
                obtain ⟨g, cap, rfl, hgw, _⟩ := hown.form hk1
                have HGW : Hid (W.heap.size ≤ g) := Lib.hid (Nat.le_trans B4.out.size hgw)
                clear hb hown HRL hgw
                go_upto_region 13 with (fail)
                go_cut [86] (fun v wx => v = .bool false ∧ Below w6.heap.size w6 wx)
                case first =>
                  obtain ⟨d0, d1, d2, d3⟩ := HW.out.cells B6.out
                  go_wp2_with fail
                  with_reducible refine (globText_any _ _ _ f0 b2 false _ HP.out.parts.2.1 (H0.out.below (HW.out.below B6.out)) HP.out.parts.2.2).mono ?_
                  rintro e w7 ⟨t2, rfl, ht2, _, hb⟩
                  obtain rfl : t2 = t := nb_inj (ht2.trans ((List.append_nil _).trans (HGL.out.trans HT.out.symm)))
                  have HB7 := Lib.hid hb
                  have q1 : (t2.toList != t2.toList) = false := bne_self_eq_false _
                  have q2 : ((k : Int) != (k : Int)) = false := bne_self_eq_false _
                  clear hb ht2 d0 d1 d2 d3
                  go_wp2
                  go_meet
                  case rel => exact ⟨by first | rfl | rw [q2] | rw [q1], HB7.out⟩
                case rest =>
                  obtain ⟨rfl, hb⟩ := hcut
                  have B7 := Lib.hid (B6.out.trans (hb.mono B6.out.size))
                  have HO7 := Lib.hid (ownsRow_below3 HOWN.out hb)
                  clear hb HOWN
                  go_upto_region 16 with (fail)
                  go_loopw [89] (fun i wr => ∃ m : Nat, m ≤ k ∧ i = .int .i64 (m : Nat) ∧ Below wc.heap.size wc wr) (fun i _ => k - (intOf i).toNat)
                  case atStart => exact ⟨0, Nat.zero_le _, rfl, Below.refl _ _⟩
                  case round =>
                    obtain ⟨m, hm, rfl, hb⟩ := hrel
                    have HB8 := Lib.hid hb
                    have B8 := Lib.hid (B7.out.trans (hb.mono B7.out.size))
                    have HO8 := Lib.hid (ownsRow_below3 HO7.out hb)
                    clear hb
                    by_cases hlt : m < k
                    · have hltI : (m : Int) < k := by omega
                      obtain ⟨b, off, rfl, _, k0, k1, k2, _⟩ := (H1.out.below (HW.out.below B8.out)) m hlt
                      have hst : stN (readOf (g1 m)).2.1 = (g1 m).2.1 := readOf_st (HP.out.atts.2.2 m hlt)
                      have o0 := (HO8.out.cellAt (m * 3 + 0) (by omega)).trans (outsV_at _ k m 0 hlt (by decide))
                      have o1 := (HO8.out.cellAt (m * 3 + 1) (by omega)).trans (outsV_at _ k m 1 hlt (by decide))
                      have o2 := (HO8.out.cellAt (m * 3 + 2) (by omega)).trans (outsV_at _ k m 2 hlt (by decide))
                      unfold out3 at o0 o1 o2
                      dsimp only [List.getElem?_cons_zero, List.getElem?_cons_succ] at o0 o1 o2
                      rw [hst] at o2
                      have hv : (g1 m).2.1 = 3 → (readOf (g1 m)).2.2 = (g1 m).2.2 := fun h => by unfold readOf; rw [if_pos h]
                      have hnm : (readOf (g1 m)).1 = (g1 m).1 := rfl
                      rw [hnm] at o0
                      have hx256 : (g1 m).2.1 < 256 := by have := (HP.out.atts.2.2 m hlt).2.1; omega
                      clear hst hnm
                      generalize readOf (g1 m) = r at o0 o1 o2 hv
                      generalize g1 m = a at k0 k1 k2 o0 o1 o2 hv hx256
                      obtain ⟨a1, a2, a3⟩ := a
                      obtain ⟨r1, r2, r3⟩ := r
                      dsimp only at k0 k1 k2 o0 o1 o2 hv hx256
                      go_upto_region 18 with (fail)
                      have HBA : Hid (Below wr.heap.size wr (wr.alloc (.cells #[.string a1, .int .u8 (a2 : Nat), .string a3] 42))) := Lib.hid ((Below.refl _ _).alloc (Nat.le_refl _) _)
                      have HRA : Hid ((wr.alloc (.cells #[.string a1, .int .u8 (a2 : Nat), .string a3] 42)).heap[wr.heap.size]? = some (.cells #[.string a1, .int .u8 (a2 : Nat), .string a3] 42 (0, 0))) := Lib.hid (heap_new wr _)
                      have hgl : g < wr.heap.size := (HO8.out.lt g rfl).2
                      have n0' : (wr.alloc (.cells #[.string a1, .int .u8 (a2 : Nat), .string a3] 42)).cell? ⟨g, m * 3, none⟩ = some (.string a1) := (HBA.out.cell (p := ⟨g, m * 3, none⟩) hgl).trans o0
                      have n1' : (wr.alloc (.cells #[.string a1, .int .u8 (a2 : Nat), .string a3] 42)).cell? ⟨g, m * 3 + 1, none⟩ = some (.string r3) := (HBA.out.cell (p := ⟨g, m * 3 + 1, none⟩) hgl).trans o1
                      have n2' : (wr.alloc (.cells #[.string a1, .int .u8 (a2 : Nat), .string a3] 42)).cell? ⟨g, m * 3 + 2, none⟩ = some (.int .i64 (a2 : Nat)) := (HBA.out.cell (p := ⟨g, m * 3 + 2, none⟩) hgl).trans o2
                      clear k0 k1 k2 o0 o1 o2
                      generalize hab : wr.heap.size = ab at *
                      generalize wr.alloc (.cells #[.string a1, .int .u8 (a2 : Nat), .string a3] 42) = V at HBA HRA n0' n1' n2' ⊢
                      have HBV : Hid (Below wc.heap.size wc V) := Lib.hid (HB8.out.trans (HBA.out.mono (by rw [← hab]; exact HB8.out.size)))
                      clear hab hgl
                      have c0' : V.cell? ⟨ab, 0, none⟩ = some (.string a1) := by rw [Lib.cell_of_heap HRA.out]; rfl
                      have c1' : V.cell? ⟨ab, 1, none⟩ = some (.int .u8 (a2 : Nat)) := by rw [Lib.cell_of_heap HRA.out]; rfl
                      have c2' : V.cell? ⟨ab, 2, none⟩ = some (.string a3) := by rw [Lib.cell_of_heap HRA.out]; rfl
                      have e0 : V.cell? ⟨g, 0 + m * 3, none⟩ = some (.string a1) := by rw [Nat.zero_add]; exact n0'
                      have e1 : V.cell? ⟨g, 0 + m * 3 + 1, none⟩ = some (.string r3) := by rw [Nat.zero_add]; exact n1'
                      have e2 : V.cell? ⟨g, 0 + m * 3 + 2, none⟩ = some (.int .i64 (a2 : Nat)) := by rw [Nat.zero_add]; exact n2'
                      have t1 : (a1.toList != a1.toList) = false := bne_self_eq_false _
                      have t2 : ((a2 : Int) != (a2 : Int)) = false := bne_self_eq_false _
                      by_cases h3 : a2 = 3
                      · obtain rfl : r3 = a3 := hv h3
                        subst h3
                        clear hv HBA HRA
                        have t3 : (r3.toList != r3.toList) = false := bne_self_eq_false _
                        go_quiet (fail)
                        go_wp2
                        go_roundw
                        case rel => exact ⟨m + 1, by omega, by go_num, below_drewN HBV.out _⟩
                        case measure => simp [intOf]; omega
                      · have t4 : ((a2 : Int) == 3) = false := beq_eq_false_iff_ne.mpr (by omega)
                        clear hv HBA HRA h3
                        go_quiet (fail)
                        go_wp2
                        go_roundw
                        case rel => exact ⟨m + 1, by omega, by go_num, below_drewN HBV.out _⟩
                        case measure => simp [intOf]; omega
                    · obtain rfl : m = k := by omega
                      go_wp2_with fail
                      with_reducible refine (awake_any _).mono ?_
                      rintro e w9 ⟨rfl, hb⟩
                      have B9 := Lib.hid (B8.out.trans (hb.mono B8.out.size)); clear hb
                      go_wp2
                      go_ret
                      exact ⟨rfl, HW.out.below B9.out⟩
end Go.Proofs.YteipeagdflcjjaaDoor
