/- impl.SpecMatch of a wildcard at a name that it takes. -/
import Derived.Test.YtnhegjjegamdfaaFmtRgD
namespace Go.Proofs.YtnhegjjegamdfaaFmt
open Go.RowKit
set_option linter.unusedSimpArgs false
set_option linter.unusedVariables false

def SpecMatchPost (C D Q : List Nat) (w : World) (e : Ending) (w' : World) : Prop :=
  ∃ r : ByteArray, e = .returned (.tuple #[.bool true, .string r, .bool true]) ∧ nb r = C ++ (Q ++ D) ∧ Below w.heap.size w w'
set_option maxRecDepth 100000 in
set_option maxHeartbeats 2000000 in
theorem SpecMatchWild_any (t nm : ByteArray) (X Y A B C D Q : List Nat) (f : Bool) (w : World) (h : Spec1 t X Y) (hX : X ≠ []) (hf : bx t 0 = 43 ↔ f = true) (hAB : X.drop (if f = true then 1 else 0) = A ++ 42 :: B) (h42 : 42 ∉ A) (hCD : Y = C ++ 42 :: D) (h42c : 42 ∉ C) (hnm : nb nm = A ++ (Q ++ B)) (hns : nm.size ≤ 1000) :
    Calls Tryf.prog 8 #[.string t, .string nm] w (SpecMatchPost C D Q w) := by
  have HV := Lib.hid (fun w => specValidate_any t X Y w h)
  have HMT := Lib.hid (fun w => MatchWild_any t nm X Y A B f w h hX hf hAB h42 hns)
  have HDS := Lib.hid (fun w => DstWild_any t nm X Y A B C D Q f w h hX hf hAB h42 hCD h42c hnm hns)
  have HG : Hid (GlobP (nb nm) A B) := Lib.hid ⟨by rw [hnm]; simp, ⟨Q ++ B, hnm⟩, ⟨A ++ Q, by rw [hnm]; simp⟩⟩
  clear h hX hf hAB h42 hCD h42c hnm
  go_enter Tryf.func8, Tryf.ntmps8
  go_wp2_with fail
  with_reducible refine (HV.out _).mono ?_
  rintro e w' ⟨rfl, rfl⟩
  go_wp2_with fail
  with_reducible refine (HMT.out _).mono ?_
  rintro e w1 ⟨B1, rfl, hB, hb1⟩
  have hB1 : B1 = true := hB.mpr HG.out
  subst hB1
  have HB1 := Lib.hid hb1
  clear hB hb1
  go_wp2_with fail
  with_reducible refine (HDS.out _).mono ?_
  rintro e w2 ⟨r, rfl, hr, hb2⟩
  have HR := Lib.hid hr
  have HB2 : Hid (Below w.heap.size w w2) := Lib.hid (HB1.out.trans (hb2.mono HB1.out.size))
  clear hr hb2
  go_wp2_with fail
  with_reducible refine (nameStr_any r _).mono ?_
  rintro e w3 ⟨rfl, rfl⟩
  go_wp2
  go_ret3
  exact ⟨r, rfl, HR.out, HB2.out⟩
end Go.Proofs.YtnhegjjegamdfaaFmt
