/- FnLeb. -/
import Derived.Test.YtgibmkgibkhemaaDoorAwakeL
namespace Go.Proofs.YtgibmkgibkhemaaDoor
open Go.RowKit
set_option linter.unusedSimpArgs false
set_option linter.unusedVariables false

theorem beq_self_str (s : ByteArray) : (s.toList == s.toList) = true := by rw [beq_str2]; simp
set_option maxRecDepth 100000 in
set_option maxHeartbeats 4000000 in
theorem law_leb (n : Nat) (rest : ByteArray) (w : World) (hr : rest.size ≤ maxLen) (hn : n < 18446744073709551616) :
    Calls Tryd.prog 3 #[.int .u64 (n : Nat), .string rest] w (BoolBelow true w) := by
  unfold maxLen at hr
  by_cases h1 : rest.size ≤ 2147483647
  · by_cases h2 : n < 72057594037927936
    · by_cases h3 : rest.size ≤ 50
      · go_enter Tryd.func3, Tryd.ntmps3
        go_wp2_with fail
        with_reducible refine (packLeb_any n w h2).mono ?_
        rintro e w1 ⟨r, k, rfl, hrs, hk7, hcont, hlast, hsum, hb1⟩
        have HB1 := Lib.hid hb1; clear hb1
        have hsz : ¬ 9223372036854775807 < r.size + rest.size := by omega
        have HLEB := Lib.hid (lebOf_any (r ++ rest) k w1 (by rw [ByteArray.size_append]; omega) hk7 (by rw [ByteArray.size_append]; omega)
          (fun i hi => by rw [bx_left r rest i (by omega)]; exact hcont i hi) (by rw [bx_left r rest k (by omega)]; exact hlast))
        have HSUM : Hid (lebN (bx (r ++ rest)) (k + 1) = n) := Lib.hid (by rw [lebN_congr (k + 1) (fun i hi => bx_left r rest i (by omega))]; exact hsum)
        have HDROP : Hid ((nb (r ++ rest)).drop (k + 1) = nb rest) := Lib.hid (by rw [nb_append, ← hrs, ← nb_length r, List.drop_left])
        clear hcont hlast hsum hrs
        go_wp2_with fail
        with_reducible refine HLEB.out.mono ?_
        rintro e w2 ⟨r', rfl, hr', hb2⟩
        have HB2 : Hid (Below w.heap.size w w2) := Lib.hid (HB1.out.trans (hb2.mono HB1.out.size))
        obtain rfl : r' = rest := nb_inj (hr'.trans HDROP.out)
        rw [HSUM.out]
        clear hr' hb2 HLEB HDROP HSUM hsz
        have q1 : ((n : Int) == (n : Int)) = true := beq_self_eq_true _
        have q2 := beq_self_str r'
        go_wp2_with fail
        with_reducible refine (packAwake_any _).mono ?_
        rintro e w3 ⟨rfl, hb3⟩
        have HB3 : Hid (Below w.heap.size w w3) := Lib.hid (HB2.out.trans (hb3.mono HB2.out.size))
        clear hb3
        go_wp2
        go_ret
        exact ⟨rfl, HB3.out⟩
      · have h3' : 50 < rest.size := by omega
        clear h3
        go_enter Tryd.func3, Tryd.ntmps3
        go_wp2_with fail
        with_reducible refine (packAwake_any _).mono ?_
        rintro e w3 ⟨rfl, hb3⟩
        have HB3 := Lib.hid hb3; clear hb3
        go_wp2
        go_ret
        exact ⟨rfl, HB3.out⟩
    · have h2' : 72057594037927936 ≤ n := by omega
      clear h2
      go_enter Tryd.func3, Tryd.ntmps3
      go_wp2_with fail
      with_reducible refine (packAwake_any _).mono ?_
      rintro e w3 ⟨rfl, hb3⟩
      have HB3 := Lib.hid hb3; clear hb3
      go_wp2
      go_ret
      exact ⟨rfl, HB3.out⟩
  · have h1' : 2147483647 < rest.size := by omega
    clear h1
    go_enter Tryd.func3, Tryd.ntmps3
    go_wp2
    go_ret
    exact ⟨rfl, Below.refl _ _⟩
end Go.Proofs.YtgibmkgibkhemaaDoor
