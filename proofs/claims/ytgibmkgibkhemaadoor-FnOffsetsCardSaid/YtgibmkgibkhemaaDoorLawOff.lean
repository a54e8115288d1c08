/- FnOffsets. -/
import Derived.Test.YtgibmkgibkhemaaDoorRdVar
import Derived.Test.YtgibmkgibkhemaaDoorLawLeb
namespace Go.Proofs.YtgibmkgibkhemaaDoor
open Go.RowKit
set_option linter.unusedSimpArgs false
set_option linter.unusedVariables false

set_option maxRecDepth 100000 in
set_option maxHeartbeats 4000000 in
theorem law_offsets_in (n m : Nat) (rest : ByteArray) (w : World) (hr : rest.size ≤ 50) (hn : n ≤ 72057594037927936) (hm : m ≤ 72057594037927936) (hnm : n ≤ m) :
    Calls Tryd.prog 4 #[.int .i64 (n : Nat), .int .i64 (m : Nat), .string rest] w (BoolBelow true w) := by
  have b1 : ¬ (72057594037927936 : Int) < (n : Nat) := by omega
  have b2 : ¬ (72057594037927936 : Int) < (m : Nat) := by omega
  have b3 : ¬ (m : Int) < (n : Nat) := by omega
  have HN := Lib.hid hn; have HM := Lib.hid hm; have HNM := Lib.hid hnm
  clear hn hm hnm
  go_enter Tryd.func4, Tryd.ntmps4
  go_upto_region 5 with (fail)
  clear b1 b2 b3
  go_wp2_with fail
  with_reducible refine (offWrite_any n w HN.out).mono ?_
  rintro e w1 ⟨s, rfl, hs, hb1⟩
  have HB1 := Lib.hid hb1; have HS := Lib.hid hs; clear hb1 hs
  go_wp2_with fail
  with_reducible refine (offWrite_any m w1 HM.out).mono ?_
  rintro e w2 ⟨t, rfl, ht, hb2⟩
  have HB2 : Hid (Below w.heap.size w w2) := Lib.hid (HB1.out.trans (hb2.mono HB1.out.size))
  have hts : ¬ t.size < s.size := by
    have := offE_mono n m HNM.out
    rw [← HS.out, ← ht, nb_length, nb_length] at this
    omega
  have htz : (s.size : Int) ≤ t.size := by omega
  clear hb2 ht
  have hlen := OffIn.len (OffIn.start n HN.out)
  have hsl : s.size ≤ 21 := by
    have h := offL_len 20 (n / 128) [n % 128]
    have h2 := oLen_le 20 (n / 128) (by
      have : n / 128 ≤ 72057594037927936 / 128 := Nat.div_le_div_right HN.out
      exact Nat.le_trans this (by decide))
    rw [← nb_length, HS.out]
    unfold offE
    rw [h]; simp; omega
  have hs1 : 1 ≤ s.size := by rw [← nb_length, HS.out]; exact offE_ne n
  obtain ⟨k, hk⟩ : ∃ k, s.size = k + 1 := ⟨s.size - 1, by omega⟩
  have hel : (offE n).length = k + 1 := by rw [← HS.out, nb_length, hk]
  have hbx : ∀ i (h : i < (offE n).length), bx (s ++ rest) i = (offE n)[i] := fun i h => by
    rw [bx_left s rest i (by omega)]
    rw [← bx_getElem s i (by rw [nb_length]; omega)]
    simp only [HS.out]
  have HRD := Lib.hid (offRead_any (s ++ rest) k w2 (by rw [ByteArray.size_append]; omega) (by rw [ByteArray.size_append]; omega)
    (fun i hi => by rw [hbx i (by omega)]; exact ((offE_at n i (by omega)).1 (by omega)).1) (by rw [hbx k (by omega)]; exact (offE_at n k (by omega)).2 (by omega))
    (by
      have h := offE_offV n (by have := HN.out; exact Nat.lt_of_le_of_lt this (by decide)) (bx (s ++ rest)) (fun i hi => by rw [hbx i hi, List.getElem?_eq_getElem hi])
      rw [hel, Nat.add_sub_cancel] at h
      rw [h]; exact HN.out))
  have HVV : Hid (offVal (bx (s ++ rest)) k = n) := Lib.hid (by
      have h := offE_offV n (by have := HN.out; exact Nat.lt_of_le_of_lt this (by decide)) (bx (s ++ rest)) (fun i hi => by rw [hbx i hi, List.getElem?_eq_getElem hi])
      rw [hel, Nat.add_sub_cancel] at h
      exact h)
  have hl : ¬ 9223372036854775807 < s.size + rest.size := by omega
  clear hbx hel hlen
  go_wp2_with fail
  with_reducible refine HRD.out.mono ?_
  rintro e w3 ⟨rfl, hb3⟩
  have HB3 : Hid (Below w.heap.size w w3) := Lib.hid (HB2.out.trans (hb3.mono HB2.out.size))
  rw [HVV.out]
  clear hb3 HRD HVV hl
  go_wp2_with fail
  with_reducible refine (packAwake_any _).mono ?_
  rintro e w4 ⟨rfl, hb4⟩
  have HB4 : Hid (Below w.heap.size w w4) := Lib.hid (HB3.out.trans (hb4.mono HB3.out.size))
  clear hb4
  have HPO := Lib.hid (packOffset_any n w4 HN.out)
  have hw : IntKind.u64.wrap (n : Int) = (n : Int) := by
    rw [IntKind.wrap_u64]
    have := HN.out
    omega
  go_wp2_with fail
  with_reducible refine HPO.out.mono ?_
  rintro e w5 ⟨s2, rfl, hs2, hb5⟩
  obtain rfl : s2 = s := nb_inj (hs2.trans HS.out.symm)
  have HB5 : Hid (Below w.heap.size w w5) := Lib.hid (HB4.out.trans (hb5.mono HB4.out.size))
  have q1 : ((n : Int) == (n : Int)) = true := beq_self_eq_true _
  have q2 := beq_self_str s2
  have q3 : (((k : Int) + 1) == (s2.size : Int)) = true := beq_iff_eq.mpr (by omega)
  have hts2 : s2.size ≤ t.size := by omega
  have HK := Lib.hid hk
  clear hb5 hs2 HPO hw hk hs1 hsl
  go_wp2
  go_ret
  exact ⟨rfl, HB5.out⟩

set_option maxRecDepth 100000 in
set_option maxHeartbeats 4000000 in
theorem law_offsets (n m : Int) (rest : ByteArray) (w : World) (hr : rest.size ≤ maxLen) :
    Calls Tryd.prog 4 #[.int .i64 n, .int .i64 m, .string rest] w (BoolBelow true w) := by
  unfold maxLen at hr
  by_cases h1 : rest.size ≤ 2147483647
  · by_cases a1 : n < 0
    · go_enter Tryd.func4, Tryd.ntmps4
      go_wp2_with fail
      with_reducible refine (packAwake_any _).mono ?_
      rintro e w3 ⟨rfl, hb3⟩
      have HB3 := Lib.hid hb3; clear hb3
      go_wp2
      go_ret
      exact ⟨rfl, HB3.out⟩
    · have a1' : 0 ≤ n := by omega
      by_cases a2 : (72057594037927936 : Int) < n
      · go_enter Tryd.func4, Tryd.ntmps4
        go_wp2_with fail
        with_reducible refine (packAwake_any _).mono ?_
        rintro e w3 ⟨rfl, hb3⟩
        have HB3 := Lib.hid hb3; clear hb3
        go_wp2
        go_ret
        exact ⟨rfl, HB3.out⟩
      · by_cases a3 : m < n
        · go_enter Tryd.func4, Tryd.ntmps4
          go_wp2_with fail
          with_reducible refine (packAwake_any _).mono ?_
          rintro e w3 ⟨rfl, hb3⟩
          have HB3 := Lib.hid hb3; clear hb3
          go_wp2
          go_ret
          exact ⟨rfl, HB3.out⟩
        · have a3' : n ≤ m := by omega
          by_cases a4 : (72057594037927936 : Int) < m
          · go_enter Tryd.func4, Tryd.ntmps4
            go_wp2_with fail
            with_reducible refine (packAwake_any _).mono ?_
            rintro e w3 ⟨rfl, hb3⟩
            have HB3 := Lib.hid hb3; clear hb3
            go_wp2
            go_ret
            exact ⟨rfl, HB3.out⟩
          · by_cases a5 : 50 < rest.size
            · go_enter Tryd.func4, Tryd.ntmps4
              go_wp2_with fail
              with_reducible refine (packAwake_any _).mono ?_
              rintro e w3 ⟨rfl, hb3⟩
              have HB3 := Lib.hid hb3; clear hb3
              go_wp2
              go_ret
              exact ⟨rfl, HB3.out⟩
            · obtain ⟨N, rfl⟩ := Int.eq_ofNat_of_zero_le a1'
              obtain ⟨M, rfl⟩ := Int.eq_ofNat_of_zero_le (show 0 ≤ m by omega)
              exact law_offsets_in N M rest w (by omega) (by omega) (by omega) (by omega)
  · have h1' : 2147483647 < rest.size := by omega
    clear h1
    go_enter Tryd.func4, Tryd.ntmps4
    go_wp2
    go_ret
    exact ⟨rfl, Below.refl _ _⟩
end Go.Proofs.YtgibmkgibkhemaaDoor
