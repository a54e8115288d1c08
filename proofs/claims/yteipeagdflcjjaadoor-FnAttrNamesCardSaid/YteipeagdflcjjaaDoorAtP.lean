/- gitattributes: ParsePattern, checkMacro where no macro stands. -/
import Derived.Test.YteipeagdflcjjaaDoorAtC
import Derived.Deep.RegionHeld3
namespace Go.Proofs.YteipeagdflcjjaaDoor
open Go.RowKit
set_option linter.unusedSimpArgs false
set_option linter.unusedVariables false

/-- A pattern's object. -/
def PatO (w : World) (B pb : Nat) (dv : Value) (L : List (List Nat)) : Prop :=
  ∃ (A : Option Addr) (c : Nat) (PL : List ByteArray), w.heap[pb]? = some (.cells #[dv, .slice A PL.length c] 154 (0, 0)) ∧ PL.map nb = L ∧ PL.length ≤ maxLen ∧ Strs w A PL.length (fun i => PL.getD i ⟨#[]⟩) ∧ (∀ b o sp, A = some ⟨b, o, sp⟩ → B ≤ b) ∧ B ≤ pb
theorem PatO.set {w : World} {B pb mb i : Nat} {dv : Value} {L : List (List Nat)} (h : PatO w B pb dv L) (hm : mb < B) (u : Value) : PatO (w.setCell ⟨mb, i, none⟩ u) B pb dv L := by
  obtain ⟨A, c, PL, h1, h2, h3, h4, h5, h6⟩ := h
  refine ⟨A, c, PL, by rw [Below.heap_setCell _ _ _ _ (show pb ≠ mb by omega)]; exact h1, h2, h3, fun i hi => ?_, h5, h6⟩
  obtain ⟨b, off, e, hl, hc⟩ := h4 i hi
  refine ⟨b, off, e, by rw [size_setCell]; exact hl, ?_⟩
  have := h5 _ _ _ e
  rw [World.cell?_setCell_other _ _ _ _ (fun e => by have := congrArg Addr.block e; dsimp only at this; omega)]
  exact hc
theorem PatO.below {w w' : World} {B pb : Nat} {dv : Value} {L : List (List Nat)} (h : PatO w B pb dv L) (hb : Below w.heap.size w w') : PatO w' B pb dv L := by
  obtain ⟨A, c, PL, h1, h2, h3, h4, h5⟩ := h
  exact ⟨A, c, PL, (hb.block pb (Array.getElem?_eq_some_iff.1 h1).1).trans h1, h2, h3, h4.below hb, h5⟩
theorem PatO.mono {w : World} {B B' pb : Nat} {dv : Value} {L : List (List Nat)} (h : PatO w B pb dv L) (hB : B' ≤ B) : PatO w B' pb dv L := by
  obtain ⟨A, c, PL, h1, h2, h3, h4, h5, h6⟩ := h
  exact ⟨A, c, PL, h1, h2, h3, h4, fun b o sp e => Nat.le_trans hB (h5 b o sp e), Nat.le_trans hB h6⟩
def PatPost (dv : Value) (L : List (List Nat)) (w : World) (e : Ending) (w' : World) : Prop :=
  ∃ pb : Nat, e = .returned (.iface 152 (.pointer (some ⟨pb, 0, none⟩))) ∧ w.heap.size ≤ pb ∧ pb < w'.heap.size ∧ PatO w' w.heap.size pb dv L ∧ Below w.heap.size w w'
set_option maxRecDepth 100000 in
set_option maxHeartbeats 1000000 in
theorem atParse_any (nm : ByteArray) (dA : Option Addr) (dn dc : Nat) (w : World) (hs : nm.size ≤ 10000) :
    Calls Tryd.prog 62 #[.string nm, .slice dA dn dc] w (PatPost (.slice dA dn dc) (splitN (nb nm)) w) := by
  go_enter Tryd.func62, Tryd.ntmps62
  go_wp2_with fail
  with_reducible refine (Ga.zzSplit_any nm w hs).mono ?_
  rintro e w1 ⟨v, L, rfl, hown, hL, hb⟩
  have HOWN := Lib.hid hown; have HL := Lib.hid hL; have HB := Lib.hid hb
  obtain ⟨A, c, hv, hm, _⟩ := hown.strs
  subst hv
  have HM := Lib.hid hm
  clear hown hL hb hm
  go_wp2
  go_ret
  refine ⟨w1.heap.size, rfl, HB.out.size, by rw [heap_new_size]; omega, ?_, HB.out.alloc HB.out.size _⟩
  obtain ⟨A2, c2, hv2, hm, hst⟩ := HOWN.out.strs
  cases hv2
  refine ⟨A, c, L, heap_new w1 _, HL.out, hm, hst.below ((Below.refl _ _).alloc (Nat.le_refl _) _), fun b o sp e => ?_, HB.out.size⟩
  subst e
  exact (HOWN.out.lt b rfl).1

def macroP : ByteArray := ⟨#[91, 97, 116, 116, 114, 93]⟩
set_option maxHeartbeats 1000000 in
theorem checkMacro_no (nm : ByteArray) (b : Bool) (w : World) (hs : nm.size ≤ 10000) (h : pre nm ⟨#[91, 97, 116, 116, 114, 93]⟩ = false) :
    Calls Tryd.prog 59 #[.string nm, .bool b] w fun e w' => e = .returned (.tuple #[.bool false, .string nm, .nilIface]) ∧ w = w' := by
  have H := Lib.hid h; clear h
  go_enter Tryd.func59, Tryd.ntmps59
  go_wp2_with fail
  with_reducible refine (hasPrefix_any nm _ w (by unfold maxLen; omega) (by unfold maxLen; decide)).mono ?_
  rintro e w' ⟨rfl, rfl⟩
  rw [H.out]
  go_wp2
  go_ret3
  exact ⟨rfl, rfl⟩
end Go.Proofs.YteipeagdflcjjaaDoor
