/- FnRefSafe. -/
import Derived.Test.YtnhegjjegamdfaaDoorRfY
import Derived.Test.YtnhegjjegamdfaaDoorAwakeR
namespace Go.Proofs.YtnhegjjegamdfaaDoor
open Go.RowKit
set_option linter.unusedSimpArgs false
set_option linter.unusedVariables false

set_option maxRecDepth 100000 in
set_option maxHeartbeats 2000000 in
theorem lawRefSafe_any (s : ByteArray) (a : Addr) (msg : ByteArray) (w : World) (hm : s.size ≤ maxLen) (hv : ErrAt w 0 a msg) :
    Calls Tryd.prog 3 #[.string s] w fun e w' => e = .returned (.bool true) ∧ Below w.heap.size w w' := by
  have HV := Lib.hid hv
  clear hv
  unfold maxLen at hm
  by_cases h1 : (2147483647 : Int) < s.size
  · go_enter Tryd.func3, Tryd.ntmps3
    go_wp2
    go_ret
    exact ⟨rfl, Below.refl _ _⟩
  have h1i : (s.size : Int) ≤ 2147483647 := by omega
  by_cases h2 : (100 : Int) < s.size
  · go_enter Tryd.func3, Tryd.ntmps3
    go_wp2
    go_ret
    exact ⟨rfl, Below.refl _ _⟩
  have h2i : (s.size : Int) ≤ 100 := by omega
  have hs : s.size ≤ 1000 := by omega
  clear h1 h2
  go_enter Tryd.func3, Tryd.ntmps3
  go_wp2_with fail
  with_reducible refine (NameOf_any s a msg _ hs HV.out).mono ?_
  rintro e w1 ⟨b1, b2, b3, b4, sf, sh, er, rfl, hsf, _, hb1⟩
  have HSF := Lib.hid hsf; have HB1 := Lib.hid hb1
  have hfl := name_safe b1 b2 b3 b4 sf sh er w1
  clear hsf hb1
  go_wp2_with fail
  with_reducible refine (RefSafe_any s _ hs).mono ?_
  rintro e w2 ⟨B, rfl, hB, hb2⟩
  have hE : sf = B := by rw [Bool.eq_iff_iff, HSF.out, hB]
  subst hE
  clear hfl
  have HB2 : Hid (Below w.heap.size w w2) := Lib.hid (HB1.out.trans (hb2.mono HB1.out.size))
  clear hB hb2 HSF
  have heq : (sf == sf) = true := by simp
  go_wp2_with fail
  with_reducible refine (gitAwake_any _).mono ?_
  rintro e w3 ⟨rfl, hb3⟩
  have HB3 : Hid (Below w.heap.size w w3) := Lib.hid (HB2.out.trans (hb3.mono HB2.out.size))
  clear hb3
  go_wp2
  go_ret
  exact ⟨rfl, HB3.out⟩
end Go.Proofs.YtnhegjjegamdfaaDoor
