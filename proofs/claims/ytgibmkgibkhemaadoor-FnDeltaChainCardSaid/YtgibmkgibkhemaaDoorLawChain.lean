/- FnDeltaChain. -/
import Derived.Test.YtgibmkgibkhemaaDoorDdE
import Derived.Test.YtgibmkgibkhemaaDoorAwakeL
import Derived.Test.YtgibmkgibkhemaaDoorStrs
import Derived.Deep.RegionHeld3
namespace Go.Proofs.YtgibmkgibkhemaaDoor
open Go.RowKit
set_option linter.unusedSimpArgs false
set_option linter.unusedVariables false

theorem beq_own_str (s : ByteArray) : (s.toList == s.toList) = true := by rw [beq_str2]; simp
set_option maxRecDepth 100000 in
set_option maxHeartbeats 8000000 in
theorem law_chain (A : Option Addr) (n c : Nat) (f : Nat → ByteArray) (w : World) (hm : n ≤ maxLen) (h : Strs w A n f) :
    Calls Tryd.prog 5 #[.slice A n c] w (BoolBelow true w) := by
  have H := Lib.hid h; clear h
  have HM := Lib.hid hm
  unfold maxLen at hm
  go_enter Tryd.func5, Tryd.ntmps5
  go_wp2_with fail
  with_reducible refine (fits3_any _ _ _ f _ HM.out H.out).mono ?_
  rintro e w' ⟨r, rfl, hr, rfl⟩
  cases r with
  | false =>
    clear hr
    go_wp2
    go_ret
    exact ⟨rfl, Below.refl _ _⟩
  | true =>
    clear hr
    by_cases h2 : n < 2
    · go_wp2_with fail
      with_reducible refine (packAwake_any _).mono ?_
      rintro e w3 ⟨rfl, hb3⟩
      have HB3 := Lib.hid hb3; clear hb3
      go_wp2
      go_ret
      exact ⟨rfl, HB3.out⟩
    · by_cases h8 : 8 < n
      · have h2' : ¬ (n : Int) < 2 := by omega
        go_wp2_with fail
        with_reducible refine (packAwake_any _).mono ?_
        rintro e w3 ⟨rfl, hb3⟩
        have HB3 := Lib.hid hb3; clear hb3
        go_wp2
        go_ret
        exact ⟨rfl, HB3.out⟩
      · have h2' : ¬ (n : Int) < 2 := by omega
        have h8' : ¬ (8 : Int) < n := by omega
        go_wp2
        go_loop [23] (fun i => ∃ k : Nat, k ≤ n ∧ i = .int .i64 k ∧ ∀ j, j < k → 1 ≤ (f j).size ∧ (f j).size ≤ 1000) (fun i => n - (intOf i).toNat)
        case atStart => exact ⟨0, Nat.zero_le _, rfl, fun j h => by omega⟩
        case round =>
          obtain ⟨k, hk, rfl, hall⟩ := hrel
          have HA := Lib.hid hall; clear hall
          by_cases hlt : k < n
          · obtain ⟨b, off, rfl, _, hcell⟩ := H.out.at k hlt
            generalize hs : f k = s at hcell
            have HSK := Lib.hid hs
            clear hs
            by_cases hz : s.size = 0
            · have hz' : ((s.size : Int) == 0) = true := by rw [hz]; rfl
              go_wp2_with fail
              with_reducible refine (packAwake_any _).mono ?_
              rintro e w3 ⟨rfl, hb3⟩
              have HB3 := Lib.hid hb3; clear hb3
              go_wp2
              go_ret
              exact ⟨rfl, HB3.out⟩
            · have hz' : ((s.size : Int) == 0) = false := beq_eq_false_iff_ne.mpr (by omega)
              by_cases hb : 1000 < s.size
              · have hb' : (1000 : Int) < s.size := by omega
                go_wp2_with fail
                with_reducible refine (packAwake_any _).mono ?_
                rintro e w3 ⟨rfl, hb3⟩
                have HB3 := Lib.hid hb3; clear hb3
                go_wp2
                go_ret
                exact ⟨rfl, HB3.out⟩
              · have hb' : ¬ (1000 : Int) < s.size := by omega
                go_wp2
                go_round
                case rel =>
                  refine ⟨k + 1, by omega, by go_num, fun j hj => ?_⟩
                  by_cases e : j = k
                  · subst e; rw [HSK.out]; omega
                  · exact HA.out j (by omega)
                case measure => simp [intOf]; omega
          · obtain rfl : k = n := by omega
            obtain ⟨b, off, rfl, hbl, hcell⟩ := H.out.at 0 (by omega)
            rw [Nat.add_zero] at hcell
            have q0 : (0 : Int) < k := by omega
            have hlti : ¬ (k : Int) < k := by omega
            go_wp2
            go_loopw [5, 6] (fun nv iv wr => ∃ i j : Nat, j = i + 1 ∧ j ≤ k ∧ nv = .string (f i) ∧ iv = .int .i64 (j : Nat) ∧ Below w.heap.size w wr) (fun _ iv _ => k - (intOf iv).toNat)
            case atStart => exact ⟨0, 1, rfl, by omega, rfl, rfl, Below.refl _ _⟩
            case round =>
              clear hcell q0 hlti
              obtain ⟨i, j, hij, hjk, rfl, rfl, hbel⟩ := hrel
              have HB := Lib.hid hbel; clear hbel
              have HIJ := Lib.hid hij
              by_cases hin : j < k
              · obtain ⟨b1, off1, he1, hbl1, hc1⟩ := H.out.at i (by omega)
                cases he1
                obtain ⟨b1, off1, he2, hbl2, hc2⟩ := H.out.at j hin
                cases he2
                obtain ⟨s1, s2⟩ := HA.out i (by omega)
                obtain ⟨t1, t2⟩ := HA.out j hin
                generalize hs : f i = s at hc1 s1 s2
                generalize ht : f j = t at hc2 t1 t2
                have HT := Lib.hid ht
                have HC1 : Hid (wr.cell? ⟨b, off + i, none⟩ = some (.string s)) := Lib.hid ((HB.out.cell (p := ⟨b, off + i, none⟩) hbl).trans hc1)
                have HC2 : Hid (wr.cell? ⟨b, off + j, none⟩ = some (.string t)) := Lib.hid ((HB.out.cell (p := ⟨b, off + j, none⟩) hbl).trans hc2)
                have HBL : Hid (b < wr.heap.size) := Lib.hid (Nat.lt_of_lt_of_le hbl HB.out.size)
                have HSZ : Hid (1 ≤ s.size ∧ s.size ≤ 1000 ∧ 1 ≤ t.size ∧ t.size ≤ 1000) := Lib.hid ⟨s1, s2, t1, t2⟩
                have g0 : (0 : Int) ≤ (j : Int) := by omega
                have g1 : (j : Int) < k := by omega
                have g2 : (i : Int) < k := by omega
                have g3 : (0 : Int) ≤ (i : Int) := by omega
                have g4 : IntKind.i64.wrap ((j : Int) - 1) = (i : Int) := by rw [IntWalk.i64_in _ (by omega)]; omega
                clear hs ht hc1 hc2 s1 s2 t1 t2 hij
                go_upto_region 15 with (fail)
                have hc1 := HC1.out
                have hc2 := HC2.out
                go_region_held3 (fun w' => w'.cell? ⟨b, off + i, none⟩ = some (.string s) ∧ w'.cell? ⟨b, off + j, none⟩ = some (.string t))
                  (first | exact ⟨HC1.out, HC2.out⟩ | exact ⟨(HB5.out.cell (p := ⟨b, off + i, none⟩) HBL.out).trans HC1.out, (HB5.out.cell (p := ⟨b, off + j, none⟩) HBL.out).trans HC2.out⟩ | exact ⟨(HB6.out.cell (p := ⟨b, off + i, none⟩) HBL.out).trans HC1.out, (HB6.out.cell (p := ⟨b, off + j, none⟩) HBL.out).trans HC2.out⟩)
                  (first
                    | (go_at_call 14; (with_reducible refine (DeltaMake_any s t _ HSZ.out.2.1 HSZ.out.2.2.2).mono ?_); rintro e w5 ⟨r5, o5, rfl, h1, h2, h3, h4, hb5⟩; have HR5 := Lib.hid h1; have HO5 := Lib.hid h2; have HU5 := Lib.hid h3; have HE5 := Lib.hid h4; have HB5 : Hid (Below wr.heap.size wr w5) := Lib.hid ((Below.refl wr.heap.size wr).drew.trans hb5); clear h1 h2 h3 h4 hb5)
                    | (go_at_call 13; (with_reducible refine (DeltaApply_any s r5 o5 _ HSZ.out.1 HSZ.out.2.1 (by rw [HU5.out, nb_length]; exact HSZ.out.2.2.1) (by rw [HU5.out, nb_length]; exact HSZ.out.2.2.2) HO5.out HE5.out (by rw [HU5.out]; intro c hc; exact nb_lt hc) HR5.out).mono ?_); rintro e w6 ⟨r6, rfl, h1, hb6⟩; have HR6 : Hid (r6 = t) := Lib.hid (nb_inj (h1.trans HU5.out)); have HB6 : Hid (Below wr.heap.size wr w6) := Lib.hid (HB5.out.trans (hb6.mono HB5.out.size)); clear h1 hb6))
                obtain rfl := HR6.out
                clear hc1 hc2 HR5 HO5 HU5 HE5 HR6
                have q1 := beq_own_str r6
                have q2 : ((⟨#[]⟩ : ByteArray).toList == (⟨#[]⟩ : ByteArray).toList) = true := beq_own_str _
                have hc2 : w6.cell? ⟨b, off + j, none⟩ = some (.string r6) := (HB6.out.cell (p := ⟨b, off + j, none⟩) HBL.out).trans HC2.out
                go_wp2
                go_roundw
                case rel => exact ⟨j, j + 1, rfl, by omega, by rw [HT.out], by go_num, HB.out.trans (HB6.out.mono HB.out.size)⟩
                case measure => simp [intOf]; omega
              · have hin' : ¬ (j : Int) < k := by omega
                go_wp2_with fail
                with_reducible refine (packAwake_any _).mono ?_
                rintro e w3 ⟨rfl, hb3⟩
                have HB3 : Hid (Below w.heap.size w w3) := Lib.hid (HB.out.trans (hb3.mono HB.out.size))
                clear hb3
                go_wp2
                go_ret
                exact ⟨rfl, HB3.out⟩
end Go.Proofs.YtgibmkgibkhemaaDoor
