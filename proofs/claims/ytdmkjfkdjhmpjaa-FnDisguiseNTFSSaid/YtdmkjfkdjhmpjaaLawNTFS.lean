/- FnDisguiseNTFS: the walk. -/
import Derived.Test.YtdmkjfkdjhmpjaaSpecN
import Derived.Test.YtdmkjfkdjhmpjaaDisguise
import Derived.Test.YtdmkjfkdjhmpjaaWord
import Derived.Test.YtdmkjfkdjhmpjaaHeadArg
namespace Go.Proofs.Ytdmkjfkdjhmpjaa
open Go.RowKit
set_option linter.unusedSimpArgs false
set_option linter.unusedVariables false

set_option maxRecDepth 100000 in
set_option maxHeartbeats 2000000 in
theorem lawNTFS_any (wd : Nat) (A1 A2 : Option Addr) (n1 c1 n2 c2 : Nat) (f1 : Nat → Bool) (f2 : Nat → Nat) (At : Option Addr) (nt ct : Nat) (ft : Nat → Bool) (stream more : ByteArray) (w : World)
    (h : HeadArg w wd A1 A2 n1 n2 f1 f2) (hr : Rd w At nt (fun i => .bool (ft i))) (hs1 : stream.size ≤ maxLen) (hs2 : more.size ≤ maxLen) :
    Calls Try.prog 5 #[.agg #[.int .u8 wd, .slice A1 n1 c1, .slice A2 n2 c2], .slice At nt ct, .string stream, .string more] w (TrueBelow w) := by
  have HH := Lib.hid h; clear h
  have HR := Lib.hid hr; clear hr
  go_enter Try.func5, Try.ntmps5
  go_upto_region 1 with (fail)
  generalize hW : w.alloc _ = W
  have hW2 : Boxed w W wd A1 A2 n1 c1 n2 c2 := by subst hW; exact Boxed.new w wd A1 A2 n1 c1 n2 c2
  clear hW
  have HW := Lib.hid hW2
  obtain ⟨d0, d1, d2⟩ := hW2.cells (Below.refl _ _)
  clear hW2
  go_cut [30] (fun v wx => ∃ B : Bool, v = .bool B ∧ (B = false → n1 ≤ 2147483647 ∧ n2 ≤ 2147483647 ∧ nt ≤ 2147483647 ∧ stream.size ≤ 2147483647 ∧ more.size ≤ 2147483647) ∧ Below W.heap.size W wx)
  case first =>
    go_wp2_with (go_at_call 8; ((with_reducible refine (fits17_any _ _ _ _ _ _ _ _).mono ?_); rintro e w1 ⟨rfl, hb⟩; have B1 := Lib.hid hb; clear hb))
    all_goals
      go_meet
      case rel =>
        refine ⟨_, rfl, fun h => ?_, B1.out⟩
        first
          | exact absurd h (by decide)
          | (have h := of_decide_eq_false h; omega)
  case rest =>
    obtain ⟨B, rfl, hB, hb⟩ := hcut
    clear d0 d1 d2
    have B1 := Lib.hid hb; clear hb
    obtain ⟨d0, d1, d2⟩ := HW.out.cells B1.out
    cases B with
    | true =>
      clear hB
      go_wp2
      go_ret
      exact ⟨rfl, HW.out.below B1.out⟩
    | false =>
      obtain ⟨hf1, hf2, hf3, hf4, hf5⟩ := hB rfl
      clear hB
      go_upto_region 3 with (fail)
      go_cut [56] (fun v wx => ∃ B : Bool, v = .bool B ∧ (B = false → (n1 ≤ 12 ∧ n2 ≤ 12) ∧ nt ≤ 6 ∧ (stream.toList.isEmpty = true ∨ wordB stream = true) ∧ (more.toList.isEmpty = true ∨ wordB more = true)) ∧ Below W.heap.size W wx)
      case first =>
        go_wp2_with (first | (go_at_call 9; ((with_reducible refine (isDisguise_any _ _ _ _ _ _ _ _).mono ?_); rintro e w1 ⟨rfl, hb⟩; have B2 := Lib.hid (B1.out.trans (hb.mono B1.out.size)); clear hb)) | (go_at_call 10; ((with_reducible refine (isWord_b _ _ (by assumption)).mono ?_); rintro e w1 ⟨rfl, rfl⟩)))
        all_goals
          go_meet
          case rel =>
            refine ⟨_, rfl, fun h => ?_, B2.out⟩
            first
              | exact absurd h (by decide)
              | (refine ⟨by omega, by omega, ?_, ?_⟩ <;> simp_all)
      case rest =>
        obtain ⟨B, rfl, hB, hb⟩ := hcut
        clear d0 d1 d2
        have B2 := Lib.hid hb; clear hb
        cases B with
        | true =>
          clear hB
          go_wp2_with fail
          with_reducible refine (awake_any _).mono ?_
          rintro e w3 ⟨rfl, hb⟩
          have B3 := Lib.hid (B2.out.trans (hb.mono B2.out.size)); clear hb
          go_wp2
          go_ret
          exact ⟨rfl, HW.out.below B3.out⟩
        | false =>
          obtain ⟨⟨hd1, hd2⟩, hnt, hst, hmo⟩ := hB rfl
          clear hB
          have hst30 := tail_small hst
          have hmo30 := tail_small hmo
          clear hst hmo
          obtain ⟨d0, d1, d2⟩ := HW.out.cells B2.out
          have HA2 := Lib.hid (HH.out.below (HW.out.below B2.out))
          go_wp2_with fail
          with_reducible refine (disguise_any _ HA2.out.word _ _ _ _ _ _ _ _ _ _ hd1 hd2 HA2.out.caps HA2.out.igns HA2.out.small).mono ?_
          rintro e w3 ⟨r1, r2, rfl, hr2, hr1, hp, _, hb⟩
          have B3 := Lib.hid (B2.out.trans (hb.mono B2.out.size)); clear hb hr2 hp d0 d1 d2
          have HR3 := Lib.hid (HR.out.below (HW.out.below B3.out))
          go_wp2_with fail
          go_loop [9, 65] (fun o i => ∃ (k : Nat) (ob : ByteArray), k ≤ nt ∧ i = .int .i64 k ∧ o = .string ob ∧ ob.size ≤ 100 + k) (fun _ i => nt - (intOf i).toNat)
          case atStart => exact ⟨0, r1, Nat.zero_le _, rfl, rfl, by omega⟩
          case round =>
            obtain ⟨k, ob, hk, rfl, rfl, hos⟩ := hrel
            by_cases hlt : k < nt
            · obtain ⟨b1, off1, hAt, hb1, hcell⟩ := HR3.out k hlt
              obtain rfl := hAt
              have hcell' : w3.cell? ⟨b1, off1 + k, none⟩ = some (.bool (ft k)) := hcell
              clear hcell
              generalize ft k = bt at hcell'
              have hl1 : ¬ 9223372036854775807 < ob.size + 1 := by omega
              cases bt
              all_goals
                go_wp2
                go_round
                case rel => exact ⟨k + 1, _, by omega, by go_num, rfl, by rw [ByteArray.size_append]; show ob.size + 1 ≤ _; omega⟩
                case measure => simp [intOf]; omega
            · have hl2 : ¬ 9223372036854775807 < ob.size + more.size := by omega
              have hosz : (ob ++ more).size ≤ 140 := by rw [ByteArray.size_append]; omega
              go_upto_region 14 with (fail)
              generalize ob ++ more = nm at hosz
              clear hl2
              by_cases h0 : stream.size = 0
              · have he := isEmpty_str stream h0
                have H0 := Lib.hid h0; clear h0
                have HS1 : Hid (nm.size ≤ 70368744177664) := Lib.hid (by omega)
                have HS2 : Hid (nm.size ≤ maxLen) := Lib.hid (by unfold maxLen; omega)
                have i2 := idx2
                go_wp2_with fail
                with_reducible refine (dotGit_any _ _ HS1.out).mono ?_
                rintro e w4 ⟨b4, b5, rfl, _, hb⟩
                have B4 := Lib.hid (B3.out.trans (hb.mono B3.out.size)); clear hb
                generalize hX : ntfsGit nm = X
                have HX := Lib.hid hX; clear hX
                generalize isGit _ = x1; generalize hfsDot _ _ = x2; generalize hfsDot _ _ = x3
                go_wp2_with fail
                with_reducible refine (specNTFS_any _ _ HS2.out).mono ?_
                rintro e w5 ⟨rfl, hb⟩
                have B5 := Lib.hid (B4.out.trans (hb.mono B4.out.size)); clear hb
                rw [HX.out]
                have hxx : (X == X) = true := by simp
                go_wp2_with fail
                with_reducible refine (awake_any _).mono ?_
                rintro e w6 ⟨rfl, hb⟩
                have B6 := Lib.hid (B5.out.trans (hb.mono B5.out.size)); clear hb
                go_wp2
                go_ret
                exact ⟨rfl, HW.out.below B6.out⟩
              · have he := isEmpty_str_not stream h0
                have H0 := Lib.hid h0; clear h0
                have hl3 : ¬ 9223372036854775807 < 1 + stream.size := by omega
                have hc1 : ((⟨#[58]⟩ : ByteArray) ++ stream).size = 1 + stream.size := by rw [ByteArray.size_append]; rfl
                have hl4 : ¬ 9223372036854775807 < nm.size + ((⟨#[58]⟩ : ByteArray) ++ stream).size := by rw [hc1]; omega
                have hosz2 : (nm ++ ((⟨#[58]⟩ : ByteArray) ++ stream)).size ≤ 180 := by rw [ByteArray.size_append, hc1]; omega
                clear hc1
                go_upto_region 16 with (fail)
                generalize nm ++ ((⟨#[58]⟩ : ByteArray) ++ stream) = nm2 at hosz2
                clear hl3 hl4
                have HS1 : Hid (nm2.size ≤ 70368744177664) := Lib.hid (by omega)
                have HS2 : Hid (nm2.size ≤ maxLen) := Lib.hid (by unfold maxLen; omega)
                have i2 := idx2
                go_wp2_with fail
                with_reducible refine (dotGit_any _ _ HS1.out).mono ?_
                rintro e w4 ⟨b4, b5, rfl, _, hb⟩
                have B4 := Lib.hid (B3.out.trans (hb.mono B3.out.size)); clear hb
                generalize hX : ntfsGit nm2 = X
                have HX := Lib.hid hX; clear hX
                generalize isGit _ = x1; generalize hfsDot _ _ = x2; generalize hfsDot _ _ = x3
                go_wp2_with fail
                with_reducible refine (specNTFS_any _ _ HS2.out).mono ?_
                rintro e w5 ⟨rfl, hb⟩
                have B5 := Lib.hid (B4.out.trans (hb.mono B4.out.size)); clear hb
                rw [HX.out]
                have hxx : (X == X) = true := by simp
                go_wp2_with fail
                with_reducible refine (awake_any _).mono ?_
                rintro e w6 ⟨rfl, hb⟩
                have B6 := Lib.hid (B5.out.trans (hb.mono B5.out.size)); clear hb
                go_wp2
                go_ret
                exact ⟨rfl, HW.out.below B6.out⟩
end Go.Proofs.Ytdmkjfkdjhmpjaa
