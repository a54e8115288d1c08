/- ParseAttributesLine of an empty line, and of a comment. Printed by wip/gen_none.py. -/
import Derived.Test.YteipeagdflcjjaaDoorQAtI
namespace Go.Proofs.YteipeagdflcjjaaDoor
open Go.RowKit
set_option linter.unusedSimpArgs false
set_option linter.unusedVariables false

def NoneLine (w : World) (e : Ending) (w' : World) : Prop :=
  e = .returned (.tuple #[.agg #[.string ⟨#[]⟩, .nilIface, .slice none 0 0], .nilIface]) ∧ Below w.heap.size w w'
theorem pre_comment {s : ByteArray} (h1 : 1 ≤ s.size) (h : bx s 0 = 35) : pre s ⟨#[35]⟩ = true := by
  unfold pre
  rw [Bool.and_eq_true]
  refine ⟨decide_eq_true h1, ?_⟩
  have : nb (s.extract 0 (⟨#[35]⟩ : ByteArray).size) = [bx s 0] := by
    rw [nb_extract, List.drop_zero, show (⟨#[35]⟩ : ByteArray).size - 0 = 0 + 1 from rfl]
    have := drop_bx' s 0 (by omega)
    rw [List.drop_zero] at this
    exact this
  rw [this, h]
  rfl

set_option maxRecDepth 100000 in
set_option maxHeartbeats 4000000 in
theorem parseComment_any (s : ByteArray) (allow : Bool) (dA : Option Addr) (dn dc : Nat) (w : World)
    (hs : s.size ≤ 5000) (h1 : 1 ≤ s.size) (hb0 : 33 ≤ bx s 0 ∧ bx s 0 = 35) (hbl : 33 ≤ bx s (s.size - 1)) :
    Calls Tryd.prog 40 #[.string s, .slice dA dn dc, .bool allow] w (NoneLine w) := by
  have hconv := Lib.run_convert_string_bytes (P := Tryd.prog) (w.alloc (.cells #[.string ⟨#[]⟩, .nilIface, .slice none 0 0] 87)) 9 99 5 s strKind bytesKind byteKind
  have HB0 : Hid (Below w.heap.size w (w.alloc (.cells #[.string ⟨#[]⟩, .nilIface, .slice none 0 0] 87))) := Lib.hid ((Below.refl _ _).alloc (Nat.le_refl _) _)
  have HM0 : Hid (MRow (w.alloc (.cells #[.string ⟨#[]⟩, .nilIface, .slice none 0 0] 87)) w.heap.size ⟨#[]⟩ .nilIface (.slice none 0 0)) := Lib.hid (heap_new w _)
  have hs0 : (w.alloc (.cells #[.string ⟨#[]⟩, .nilIface, .slice none 0 0] 87)).heap.size = w.heap.size + 1 := heap_new_size w _
  have HS0 := Lib.hid hs0
  go_enter Tryd.func40, Tryd.ntmps40
  go_upto_region 1 with (fail)
  generalize w.alloc (.cells #[.string ⟨#[]⟩, .nilIface, .slice none 0 0] 87) = W0 at hconv HB0 HM0 hs0 HS0 ⊢
  have HB1 := Lib.hid (bytesBelow W0 5 s)
  have HA1 := Lib.hid (bytesAt_new W0 5 s)
  have HS1 : Hid ((Lib.bytesWorld W0 5 s).heap.size = W0.heap.size + 1) := Lib.hid (by rw [Lib.bytesWorld_size])
  rw [hs0] at hconv
  clear hs0
  go_wp2_with fail
  clear hconv
  generalize Lib.bytesWorld W0 5 s = W1 at HB1 HA1 HS1 ⊢
  generalize grownCap W0 s.size 0 5 = cap1
  have HTR := Lib.hid (atTrim_any (w.heap.size + 1) s.size cap1 (bx s 0) (bx s (s.size - 1)) W1 h1 (by omega) hb0.1 hbl (by rw [← HS0.out]; exact (HA1.out 0 (by omega)).1) (by rw [← HS0.out]; exact (HA1.out (s.size - 1) (by omega)).1))
  with_reducible refine HTR.out.mono ?_
  rintro e w' ⟨rfl, hw'⟩
  have hcv : (convert 99 9 (.slice (some ⟨w.heap.size + 1, 0, none⟩) s.size cap1)).run Tryd.prog W1 = .ok (.string (strOfNums ((List.range s.size).map fun j => (bx s j : Int)))) W1 :=
    BytesAt.str (b := w.heap.size + 1) (by rw [← HS0.out]; exact HA1.out) cap1
  have hrs : strOfNums ((List.range s.size).map fun j => (bx s j : Int)) = s := nb_inj (by
    have e : ((List.range s.size).map fun j => (bx s j : Int)) = (nb s).map fun c : Nat => (c : Int) := by
      refine List.ext_getElem (by simp [nb_length]) fun i h1 h2 => ?_
      simp [bx_getElem]
    rw [e, nb_strOfNums _ (fun c hc => nb_lt hc)])
  rw [hrs] at hcv
  clear hrs HTR
  have HB1w : Hid (Below w.heap.size w W1) := Lib.hid (HB0.out.trans (HB1.out.mono HB0.out.size))
  have HM1 : Hid (MRow W1 w.heap.size ⟨#[]⟩ .nilIface (.slice none 0 0)) := Lib.hid (HM0.out.below HB1.out HM0.out.lt)
  have hsz1 : w.heap.size + 2 = W1.heap.size := by rw [HS1.out, HS0.out]
  have HSZ1 := Lib.hid hsz1
  clear HA1 HB1 HB0 HM0 HS0 HS1 hsz1
  subst hw'
  go_wp2_with fail
  clear hcv
  have HPC := pre_comment h1 hb0.2
  with_reducible refine (hasPrefix_any s _ _ (by unfold maxLen; omega) (by unfold maxLen; decide)).mono ?_
  rintro e w' ⟨rfl, hw'⟩
  rw [HPC]
  subst hw'
  obtain ⟨m0, m1, m2⟩ := HM1.out.cells
  go_wp2
  refine bodyPost_ret (v := .tuple #[.agg #[.string ⟨#[]⟩, .nilIface, .slice none 0 0], .nilIface]) ?_ rfl ⟨rfl, HB1w.out⟩
  simp [results, Tryd.results40, go_sem, m0, m1, m2]

set_option maxRecDepth 100000 in
set_option maxHeartbeats 4000000 in
theorem parseEmpty_any (s : ByteArray) (hz : s = ⟨#[]⟩) (allow : Bool) (dA : Option Addr) (dn dc : Nat) (w : World) :
    Calls Tryd.prog 40 #[.string s, .slice dA dn dc, .bool allow] w (NoneLine w) := by
  have hs : s.size = 0 := by rw [hz]; rfl
  have HZ := Lib.hid hz
  clear hz
  have hconv := Lib.run_convert_string_bytes (P := Tryd.prog) (w.alloc (.cells #[.string ⟨#[]⟩, .nilIface, .slice none 0 0] 87)) 9 99 5 s strKind bytesKind byteKind
  have HB0 : Hid (Below w.heap.size w (w.alloc (.cells #[.string ⟨#[]⟩, .nilIface, .slice none 0 0] 87))) := Lib.hid ((Below.refl _ _).alloc (Nat.le_refl _) _)
  have HM0 : Hid (MRow (w.alloc (.cells #[.string ⟨#[]⟩, .nilIface, .slice none 0 0] 87)) w.heap.size ⟨#[]⟩ .nilIface (.slice none 0 0)) := Lib.hid (heap_new w _)
  have hs0 : (w.alloc (.cells #[.string ⟨#[]⟩, .nilIface, .slice none 0 0] 87)).heap.size = w.heap.size + 1 := heap_new_size w _
  have HS0 := Lib.hid hs0
  go_enter Tryd.func40, Tryd.ntmps40
  go_upto_region 1 with (fail)
  generalize w.alloc (.cells #[.string ⟨#[]⟩, .nilIface, .slice none 0 0] 87) = W0 at hconv HB0 HM0 hs0 HS0 ⊢
  have HB1 := Lib.hid (bytesBelow W0 5 s)
  have HA1 := Lib.hid (bytesAt_new W0 5 s)
  have HS1 : Hid ((Lib.bytesWorld W0 5 s).heap.size = W0.heap.size + 1) := Lib.hid (by rw [Lib.bytesWorld_size])
  rw [hs0, hs] at hconv
  clear hs0
  go_wp2_with fail
  clear hconv
  generalize Lib.bytesWorld W0 5 s = W1 at HB1 HA1 HS1 ⊢
  generalize grownCap W0 0 0 5 = cap1
  have HTR := Lib.hid (atTrim_nil (some ⟨w.heap.size + 1, 0, none⟩) cap1 W1)
  with_reducible refine HTR.out.mono ?_
  rintro e w' ⟨rfl, hw'⟩
  have hcv : (convert 99 9 (.slice (some ⟨w.heap.size + 1, 0, none⟩) 0 cap1)).run Tryd.prog W1 = .ok (.string (strOfNums ((List.range 0).map fun j => (bx s j : Int)))) W1 :=
    BytesAt.str (b := w.heap.size + 1) (n := 0) (f := bx s) (fun j hj => absurd hj (Nat.not_lt_zero _)) cap1
  have hrs : strOfNums ((List.range 0).map fun j => (bx s j : Int)) = s := nb_inj (by
    have e : ((List.range 0).map fun j => (bx s j : Int)) = (nb s).map fun c : Nat => (c : Int) := by rw [nb_nil hs]; rfl
    rw [e, nb_strOfNums _ (fun c hc => nb_lt hc)])
  rw [hrs] at hcv
  clear hrs HTR
  have HB1w : Hid (Below w.heap.size w W1) := Lib.hid (HB0.out.trans (HB1.out.mono HB0.out.size))
  have HM1 : Hid (MRow W1 w.heap.size ⟨#[]⟩ .nilIface (.slice none 0 0)) := Lib.hid (HM0.out.below HB1.out HM0.out.lt)
  have hsz1 : w.heap.size + 2 = W1.heap.size := by rw [HS1.out, HS0.out]
  have HSZ1 := Lib.hid hsz1
  clear HA1 HB1 HB0 HM0 HS0 HS1 hsz1
  subst hw'
  go_wp2_with fail
  clear hcv
  have hz := HZ.out
  subst hz
  with_reducible refine (hasPrefix_any _ _ _ (by unfold maxLen; decide) (by unfold maxLen; decide)).mono ?_
  rintro e w' ⟨rfl, hw'⟩
  rw [show pre ⟨#[]⟩ ⟨#[35]⟩ = false by decide]
  subst hw'
  obtain ⟨m0, m1, m2⟩ := HM1.out.cells
  go_wp2
  refine bodyPost_ret (v := .tuple #[.agg #[.string ⟨#[]⟩, .nilIface, .slice none 0 0], .nilIface]) ?_ rfl ⟨rfl, HB1w.out⟩
  simp [results, Tryd.results40, go_sem, m0, m1, m2]

end Go.Proofs.YteipeagdflcjjaaDoor
