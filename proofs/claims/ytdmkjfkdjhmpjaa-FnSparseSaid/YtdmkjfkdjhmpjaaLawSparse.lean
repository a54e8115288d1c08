/- FnSparse: the walk. -/
import Derived.Test.YtdmkjfkdjhmpjaaKept
import Derived.Test.YtdmkjfkdjhmpjaaDot
import Derived.Test.YtdmkjfkdjhmpjaaHeadArg
namespace Go.Proofs.Ytdmkjfkdjhmpjaa
open Go.RowKit
set_option linter.unusedSimpArgs false
set_option linter.unusedVariables false

theorem anyPre_zero (s : ByteArray) (g : Nat → ByteArray) : anyPre s 0 g = false := rfl
theorem anyPre_succ (s : ByteArray) (q : Nat) (g : Nat → ByteArray) : anyPre s (q + 1) g = (anyPre s q g || pre s (g q)) := by
  unfold anyPre
  rw [List.range_succ, List.any_append]
  simp
theorem eq_of_toList {a b : ByteArray} (h : a.toList = b.toList) : a = b := by
  have h2 := beq_str2 a b
  rw [h] at h2
  exact nb_inj (by simpa using h2.symm)

set_option maxRecDepth 100000 in
set_option maxHeartbeats 4000000 in
theorem lawSparse_any (A1 A2 : Option Addr) (n m c1 c2 : Nat) (f g : Nat → ByteArray) (w : World) (hn : n ≤ maxLen) (hm : m ≤ maxLen) (hc : n ≤ c1) (h1 : Strs w A1 n f) (h2 : Strs w A2 m g) :
    Calls Try.prog 7 #[.slice A1 n c1, .slice A2 m c2] w (TrueBelow w) := by
  have H1 := Lib.hid h1
  have H2 := Lib.hid h2
  clear h1 h2
  obtain ⟨i0, hi, hz0, hz1, hz2⟩ := info_parts strInfo
  go_enter Try.func7, Try.ntmps7
  go_wp2_with fail
  with_reducible refine (fits3_any _ _ _ f _ hn H1.out).mono ?_
  rintro e w' ⟨r1, rfl, hr1, rfl⟩
  cases r1 with
  | false =>
    clear hr1
    go_wp2
    go_ret
    exact ⟨rfl, Below.refl _ _⟩
  | true =>
    obtain ⟨hn2, hfs⟩ := hr1 rfl
    have HFS := Lib.hid hfs
    clear hr1 hfs
    go_wp2_with fail
    with_reducible refine (fits3_any _ _ _ g _ hm H2.out).mono ?_
    rintro e w' ⟨r2, rfl, hr2, rfl⟩
    cases r2 with
    | false =>
      clear hr2
      go_wp2
      go_ret
      exact ⟨rfl, Below.refl _ _⟩
    | true =>
      obtain ⟨hm2, hgs⟩ := hr2 rfl
      have HGS := Lib.hid hgs
      clear hr2 hgs
      have HFM : Hid (∀ i, i < n → (f i).size ≤ maxLen) := Lib.hid fun i hi => by have := HFS.out i hi; unfold maxLen; omega
      have HGM : Hid (∀ i, i < m → (g i).size ≤ maxLen) := Lib.hid fun i hi => by have := HGS.out i hi; unfold maxLen; omega
      go_wp2
      go_loopw [5, 25] (fun l i wr => ∃ k : Nat, k ≤ n ∧ i = .int .i64 k ∧ Own wr w.heap.size l (keptL k f m g) ∧ Below w.heap.size w wr) (fun _ i _ => n - (intOf i).toNat)
      case atStart => exact ⟨0, Nat.zero_le _, rfl, Own.nil _ _, Below.refl _ _⟩
      case round =>
        obtain ⟨k, hk, rfl, hown, hbel⟩ := hrel
        have HOWN := Lib.hid hown
        have HB := Lib.hid hbel
        clear hown hbel
        by_cases hlt : k < n
        · obtain ⟨b1, o1, rfl, _, hcn⟩ := (H1.out.below HB.out).at k hlt
          have hfk := HFS.out k hlt
          go_upto_region 7 with (fail)
          clear hcn
          go_wp2
          go_loop [34] (fun i => ∃ q : Nat, q ≤ k ∧ i = .int .i64 q) (fun i => k - (intOf i).toNat)
          case atStart => exact ⟨0, Nat.zero_le _, rfl⟩
          case round =>
            obtain ⟨q, hq, rfl⟩ := hrel
            by_cases hql : q < k
            · obtain ⟨b', o', he, _, hcq⟩ := (H1.out.below HB.out).at q (by omega)
              injection he with he
              injection he with he1 he2
              subst he1 he2
              by_cases hs : ((f q).toList == (f k).toList) = true
              · go_wp2_with fail
                with_reducible refine (awake_any _).mono ?_
                rintro e w3 ⟨rfl, hb⟩
                have HB3 := Lib.hid (HB.out.trans (hb.mono HB.out.size)); clear hb
                go_wp2
                go_ret
                exact ⟨rfl, HB3.out⟩
              · have hs' : ((f q).toList == (f k).toList) = false := by simpa using hs
                clear hs
                go_wp2
                go_round
                case rel => exact ⟨q + 1, by omega, by go_num⟩
                case measure => simp [intOf]; omega
            · go_wp2_with fail
              with_reducible refine (isFile_any _ _ hfk).mono ?_
              rintro e w3 ⟨r3, rfl, rfl⟩
              cases r3 with
              | false =>
                go_wp2_with fail
                with_reducible refine (awake_any _).mono ?_
                rintro e w3 ⟨rfl, hb⟩
                have HB3 := Lib.hid (HB.out.trans (hb.mono HB.out.size)); clear hb
                go_wp2
                go_ret
                exact ⟨rfl, HB3.out⟩
              | true =>
                go_wp2
                go_loop [10, 49] (fun kp i => ∃ q : Nat, q ≤ m ∧ i = .int .i64 q ∧ kp = .bool (anyPre (f k) q g)) (fun _ i => m - (intOf i).toNat)
                case atStart => exact ⟨0, Nat.zero_le _, rfl, rfl⟩
                case round =>
                  obtain ⟨p, hp, rfl, rfl⟩ := hrel
                  by_cases hpl : p < m
                  · obtain ⟨b2, o2, rfl, _, hcp⟩ := (H2.out.below HB.out).at p hpl
                    have hgp := HGS.out p hpl
                    have HSUC := Lib.hid (anyPre_succ (f k) p g)
                    generalize anyPre (f k) p g = kp at HSUC
                    by_cases hle : (g p).size ≤ (f k).size
                    · have hle' : ((g p).size : Int) ≤ (f k).size := by omega
                      have hqq := beq_str2 ((f k).extract 0 (g p).size) (g p)
                      have HQ : Hid (pre (f k) (g p) = (nb ((f k).extract 0 (g p).size) == nb (g p))) := Lib.hid (by unfold pre; rw [decide_eq_true hle]; rfl)
                      generalize (nb ((f k).extract 0 (g p).size) == nb (g p)) = P at hqq HQ
                      cases P with
                      | false =>
                        go_wp2
                        go_round
                        case rel => exact ⟨p + 1, by omega, by go_num, by rw [HSUC.out, HQ.out, Bool.or_false]⟩
                        case measure => simp [intOf]; omega
                      | true =>
                        go_upto_region 20 with (fail)
                        any_goals (exfalso; omega)
                        go_cut [77] (fun v wx => ∃ D : Bool, v = .bool D ∧ wx = wr)
                        case first =>
                          by_cases hgt : (g p).size < (f k).size
                          · have hgt' : ((g p).size : Int) < (f k).size := by omega
                            have hb := bx_get (f k) (g p).size hgt
                            go_wp2
                            go_meet
                            case rel => exact ⟨_, rfl, rfl⟩
                          · have hgt' : ((f k).size : Int) ≤ (g p).size := by omega
                            go_wp2
                            go_meet
                            case rel => exact ⟨_, rfl, rfl⟩
                        case rest =>
                          obtain ⟨D, rfl, rfl⟩ := hcut
                          clear hqq
                          cases D with
                          | true =>
                            go_wp2_with fail
                            with_reducible refine (awake_any _).mono ?_
                            rintro e w3 ⟨rfl, hb⟩
                            have HB3 := Lib.hid (HB.out.trans (hb.mono HB.out.size)); clear hb
                            go_wp2
                            go_ret
                            exact ⟨rfl, HB3.out⟩
                          | false =>
                            go_wp2
                            go_round
                            case rel => exact ⟨p + 1, by omega, by go_num, by rw [HSUC.out, HQ.out, Bool.or_true]⟩
                            case measure => simp [intOf]; omega
                    · have hle' : ((f k).size : Int) < (g p).size := by omega
                      have HQ : Hid (pre (f k) (g p) = false) := Lib.hid (by unfold pre; rw [decide_eq_false hle]; rfl)
                      go_wp2
                      go_round
                      case rel => exact ⟨p + 1, by omega, by go_num, by rw [HSUC.out, HQ.out, Bool.or_false]⟩
                      case measure => simp [intOf]; omega
                  · obtain rfl : p = m := by omega
                    have hkl := keptL_le k p f g
                    generalize hAP : anyPre (f k) p g = AP
                    cases AP with
                    | false =>
                      have R : Own wr w.heap.size u5 (keptL (k + 1) f p g) := by rw [keptL_miss hAP]; exact HOWN.out
                      have HR := Lib.hid R
                      clear R hAP
                      go_wp2
                      go_roundw
                      case rel => exact ⟨k + 1, by omega, by go_num, HR.out, HB.out⟩
                      case measure => simp [intOf]; omega
                    | true =>
                      have HAP := Lib.hid hAP; clear hAP
                      go_wp2_with (at_builtin; refine wpList_append_lies _ rfl (.tmp 81) (.tmp 83) 37 rfl w.heap.size 9 i0 (.string ⟨#[]⟩) 1 16 strsKind hi hz0 hz1 hz2 rfl (by decide) _ _ _ rfl (World.ownsRow.alloc HOWN.out _) ⟨wr.heap.size, 0, none⟩ 1 1 [.string (f k)] rfl rfl (news_str _ _) (one_str _) (by decide) ?c3 ?c4 ?c5 _ rfl ?_)
                      case c3 => unfold maxLen; omega
                      case c4 => omega
                      case c5 => have := HB.out.size; omega
                      intro gg cap2 w4 hown4 hgrow _ _
                      have R : Own w4 w.heap.size (.slice (some ⟨gg, 0, none⟩) ((keptL k f p g).length + 1) cap2) (keptL (k + 1) f p g) := by rw [keptL_hit HAP.out]; exact Own.more hown4
                      have RB : Below w.heap.size w w4 := (HB.out.alloc HB.out.size _).grown hgrow (by have := HB.out.size; rw [heap_new_size]; omega) (fun q e => (HOWN.out.lt q e).1)
                      have HR := Lib.hid R
                      have HRB := Lib.hid RB
                      clear R RB hown4 hgrow
                      go_wp2
                      go_roundw
                      case rel => exact ⟨k + 1, by omega, by go_num, HR.out, HRB.out⟩
                      case measure => simp [intOf]; omega
        · obtain rfl : k = n := by omega
          go_wp2
          go_loop [88] (fun i => ∃ q : Nat, q ≤ m ∧ i = .int .i64 q) (fun i => m - (intOf i).toNat)
          case atStart => exact ⟨0, Nat.zero_le _, rfl⟩
          case round =>
            obtain ⟨q, hq, rfl⟩ := hrel
            by_cases hql : q < m
            · obtain ⟨b2, o2, rfl, _, hcp⟩ := (H2.out.below HB.out).at q hql
              have hgp := HGS.out q hql
              go_wp2_with fail
              with_reducible refine (isFile_any _ _ hgp).mono ?_
              rintro e w3 ⟨r3, rfl, rfl⟩
              cases r3 with
              | false =>
                go_wp2_with fail
                with_reducible refine (awake_any _).mono ?_
                rintro e w3 ⟨rfl, hb⟩
                have HB3 := Lib.hid (HB.out.trans (hb.mono HB.out.size)); clear hb
                go_wp2
                go_ret
                exact ⟨rfl, HB3.out⟩
              | true =>
                go_wp2
                go_round
                case rel => exact ⟨q + 1, by omega, by go_num⟩
                case measure => simp [intOf]; omega
            · go_upto_region 33 with (fail)
              go_cut [104] (fun v wx => ∃ D : Bool, v = .bool D ∧ (D = false → k ≤ 8) ∧ wx = wr)
              case first =>
                by_cases h8 : (k : Int) ≤ 8
                · go_wp2
                  go_meet
                  case rel => exact ⟨_, rfl, fun _ => by omega, rfl⟩
                · have h8' : (8 : Int) < k := by omega
                  go_wp2
                  go_meet
                  case rel => exact ⟨true, rfl, fun h => (by cases h), rfl⟩
              case rest =>
                obtain ⟨D, rfl, hD, rfl⟩ := hcut
                cases D with
                | true =>
                  clear hD
                  go_wp2_with fail
                  with_reducible refine (awake_any _).mono ?_
                  rintro e w3 ⟨rfl, hb⟩
                  have HB3 := Lib.hid (HB.out.trans (hb.mono HB.out.size)); clear hb
                  go_wp2
                  go_ret
                  exact ⟨rfl, HB3.out⟩
                | false =>
                  have h8 := hD rfl
                  clear hD
                  go_wp2_with fail
                  with_reducible refine (kept_any _ _ k m _ _ f g _ (by omega) hm2 HFM.out HGM.out (H1.out.below HB.out) (H2.out.below HB.out)).mono ?_
                  rintro e w3 ⟨v3, rfl, hown3, hb3⟩
                  have hownw := HOWN.out.below hb3
                  obtain ⟨A3, c3, rfl, hl3, hs3⟩ := hown3.strs
                  obtain ⟨A5, c5, rfl, hl5, hs5⟩ := hownw.strs
                  have HS3 := Lib.hid hs3
                  have HS5 := Lib.hid hs5
                  have HB3 := Lib.hid (HB.out.trans (hb3.mono HB.out.size))
                  clear hs3 hs5 hb3 hownw hown3
                  go_wp2_with fail
                  with_reducible refine (lineSame_any _ _ _ _ _ _ _ _ _ hl3 hl5 HS3.out HS5.out).mono ?_
                  rintro e w4 ⟨r4, rfl, hr4, hb4⟩
                  obtain rfl := hr4 ⟨rfl, fun _ _ => rfl⟩
                  have HB4 := Lib.hid (HB3.out.trans (hb4.mono HB3.out.size))
                  clear hr4 hb4
                  go_wp2_with fail
                  with_reducible refine (awake_any _).mono ?_
                  rintro e w5 ⟨rfl, hb5⟩
                  have HB5 := Lib.hid (HB4.out.trans (hb5.mono HB4.out.size)); clear hb5
                  go_wp2
                  go_ret
                  exact ⟨rfl, HB5.out⟩
end Go.Proofs.Ytdmkjfkdjhmpjaa
