/- DotGit: the six answers; disguiseAwake. -/
import Derived.Test.YteipeagdflcjjaaDoorHfs
import Derived.Test.YteipeagdflcjjaaDoorWin
import Derived.Test.YteipeagdflcjjaaDoorNtfsDot
namespace Go.Proofs.YteipeagdflcjjaaDoor
open Go.RowKit
set_option linter.unusedSimpArgs false
set_option linter.unusedVariables false

def isGit (s : ByteArray) : Bool := lowS (nb s) == dotGit || lowS (nb s) == gitOne
def ntfsGit (s : ByteArray) : Bool := (begins s dotGit && tailOk ((nb s).drop 4)) || (begins s gitOne && tailOk ((nb s).drop 5))
def modules (s : ByteArray) : Prop := (begins s dotGitmodules = true ∧ tailOk ((nb s).drop 11) = true) ∨ (8 ≤ s.size ∧ tailOk ((nb s).drop 8) = true ∧ (shortOk s = true ∨ ∃ n, SumAt s n 8))

def GitPost (s : ByteArray) (w : World) (e : Ending) (w' : World) : Prop :=
  ∃ b4 b5 : Bool, e = .returned (.agg #[.bool (isGit s), .bool (hfsDot (runes s) gitN), .bool (ntfsGit s), .bool (hfsDot (runes s) gitmodulesN), .bool b4, .bool b5]) ∧ (b4 = true ↔ modules s) ∧ Below w.heap.size w w'

set_option maxHeartbeats 400000 in
theorem isNTFSDotGitmodules_any (s : ByteArray) (w : World) (hs : s.size ≤ maxLen) :
    Calls Tryd.prog 50 #[.string s] w (DotPost s w) := by
  go_enter Tryd.func50, Tryd.ntmps50
  go_wp2_with fail
  with_reducible refine (isNTFSDot_any s _ hs).mono ?_
  rintro e w' ⟨b, rfl, hiff, hb⟩
  have HB := Lib.hid hb; clear hb
  have HI := Lib.hid hiff; clear hiff
  go_wp2
  go_ret
  exact ⟨b, rfl, HI.out, HB.out⟩

set_option maxHeartbeats 1000000 in
theorem dotGit_any (s : ByteArray) (w : World) (hs : s.size ≤ 70368744177664) :
    Calls Tryd.prog 32 #[.string s] w (GitPost s w) := by
  have hm : s.size ≤ maxLen := by unfold maxLen; omega
  have HM := Lib.hid hm; clear hm
  have HS := Lib.hid hs; clear hs
  go_enter Tryd.func32, Tryd.ntmps32
  go_wp2_with fail
  generalize hW : w.alloc (.cells #[.bool false, .bool false, .bool false, .bool false, .bool false, .bool false] 60) = W
  have hW2 : Hid (Below w.heap.size w W ∧ W.heap.size = w.heap.size + 1 ∧ W.heap[w.heap.size]? = some (.cells #[.bool false, .bool false, .bool false, .bool false, .bool false, .bool false] 60)) := by
    subst hW
    exact Lib.hid ⟨(Below.refl _ _).alloc (Nat.le_refl _) _, heap_new_size _ _, heap_new _ _⟩
  clear hW
  with_reducible refine (isDotGitName_any _ _ HM.out).mono ?_
  rintro e w1 ⟨rfl, hb⟩
  have B1 := Lib.hid hb; clear hb
  go_wp2_with fail
  with_reducible refine (isHFSDotGit_any _ _ HS.out).mono ?_
  rintro e w2 ⟨rfl, hb⟩
  have B2 := Lib.hid (B1.out.trans (hb.mono B1.out.size)); clear hb B1
  go_wp2_with fail
  with_reducible refine (isNTFSDotGit_any _ _ HM.out).mono ?_
  rintro e w3 ⟨rfl, rfl⟩
  go_wp2_with fail
  with_reducible refine (isHFSDotGitmodules_any _ _ HS.out).mono ?_
  rintro e w4 ⟨rfl, hb⟩
  have B4 := Lib.hid (B2.out.trans (hb.mono B2.out.size)); clear hb B2
  go_wp2_with fail
  with_reducible refine (isNTFSDotGitmodules_any _ _ HM.out).mono ?_
  rintro e w5 ⟨b4, rfl, hiff, hb⟩
  have B5 := Lib.hid (B4.out.trans (hb.mono B4.out.size)); clear hb B4
  have HI := Lib.hid hiff; clear hiff
  go_wp2_with fail
  with_reducible refine (windowsValid_any _ _ HM.out).mono ?_
  rintro e w6 ⟨b5, rfl, hb⟩
  have B6 := Lib.hid (B5.out.trans (hb.mono B5.out.size)); clear hb B5
  have hh : w6.heap[w.heap.size]? = some (.cells #[.bool false, .bool false, .bool false, .bool false, .bool false, .bool false] 60) := by
    rw [B6.out.block _ (by rw [hW2.out.2.1]; omega)]; exact hW2.out.2.2
  have hc : ∀ j, j < 6 → w6.cell? ⟨w.heap.size, j, none⟩ = some (.bool false) := by
    intro j hj
    simp only [World.cell?, hh]
    match j, hj with
    | 0, _ => rfl
    | 1, _ => rfl
    | 2, _ => rfl
    | 3, _ => rfl
    | 4, _ => rfl
    | 5, _ => rfl
  have hf : ∀ j, w6.frozen? ⟨w.heap.size, j, none⟩ = false := by
    intro j
    simp [World.frozen?, hh]
  have c0 := hc 0 (by omega); have c1 := hc 1 (by omega); have c2 := hc 2 (by omega); have c3 := hc 3 (by omega); have c4 := hc 4 (by omega); have c5 := hc 5 (by omega)
  have f0 := hf 0; have f1 := hf 1; have f2 := hf 2; have f3 := hf 3; have f4 := hf 4; have f5 := hf 5
  have HH := Lib.hid hh; clear hh hc hf
  generalize hA0 : (lowS (nb s) == dotGit || lowS (nb s) == gitOne) = A0
  generalize hA1 : hfsDot (runes s) gitN = A1
  generalize hA2 : (begins s dotGit && tailOk (List.drop 4 (nb s)) || begins s gitOne && tailOk (List.drop 5 (nb s))) = A2
  generalize hA3 : hfsDot (runes s) gitmodulesN = A3
  have HA := Lib.hid (And.intro hA0 (And.intro hA1 (And.intro hA2 hA3))); clear hA0 hA1 hA2 hA3
  go_wp2
  refine bodyPost_ret (v := .agg #[.bool A0, .bool A1, .bool A2, .bool A3, .bool b4, .bool b5]) ?_ rfl ⟨b4, b5, ?_, HI.out, ?_⟩
  · simp [results, Tryd.results32, go_sem, c0, c1, c2, c3, c4, c5]
  · rw [← HA.out.1, ← HA.out.2.1, ← HA.out.2.2.1, ← HA.out.2.2.2]; rfl
  · exact (hW2.out.1.trans (B6.out.mono (by rw [hW2.out.2.1]; omega))).setCell (Nat.le_refl _) _ |>.setCell (Nat.le_refl _) _ |>.setCell (Nat.le_refl _) _ |>.setCell (Nat.le_refl _) _ |>.setCell (Nat.le_refl _) _ |>.setCell (Nat.le_refl _) _

theorem idx0 (a0 a1 a2 a3 a4 a5 : Value) (w : World) : (Instr.index 60 (.agg #[a0, a1, a2, a3, a4, a5]) (.int .i64 0)).run Tryd.prog w = .ok a0 w := by kernel_rfl
theorem idx1 (a0 a1 a2 a3 a4 a5 : Value) (w : World) : (Instr.index 60 (.agg #[a0, a1, a2, a3, a4, a5]) (.int .i64 1)).run Tryd.prog w = .ok a1 w := by kernel_rfl
theorem idx2 (a0 a1 a2 a3 a4 a5 : Value) (w : World) : (Instr.index 60 (.agg #[a0, a1, a2, a3, a4, a5]) (.int .i64 2)).run Tryd.prog w = .ok a2 w := by kernel_rfl
theorem idx3 (a0 a1 a2 a3 a4 a5 : Value) (w : World) : (Instr.index 60 (.agg #[a0, a1, a2, a3, a4, a5]) (.int .i64 3)).run Tryd.prog w = .ok a3 w := by kernel_rfl
theorem idx4 (a0 a1 a2 a3 a4 a5 : Value) (w : World) : (Instr.index 60 (.agg #[a0, a1, a2, a3, a4, a5]) (.int .i64 4)).run Tryd.prog w = .ok a4 w := by kernel_rfl

set_option maxHeartbeats 400000 in
theorem awake_any (w : World) :
    Calls Tryd.prog 13 #[] w fun e w' => e = .returned (.bool true) ∧ Below w.heap.size w w' := by
  have i0 := idx0
  go_enter Tryd.func13, Tryd.ntmps13
  go_wp2_with fail
  with_reducible refine (dotGit_any ⟨#[46, 103, 105, 116]⟩ _ (by decide)).mono ?_
  rintro e w1 ⟨b4, b5, rfl, hi, hb⟩
  have B1 := Lib.hid hb; clear hb hi
  rw [show isGit { data := #[46, 103, 105, 116] } = true from by rfl]
  generalize hfsDot _ _ = x1; generalize ntfsGit _ = x2; generalize hfsDot _ _ = x3
  go_wp2_with fail
  with_reducible refine (dotGit_any ⟨#[97]⟩ _ (by decide)).mono ?_
  rintro e w2 ⟨b4', b5', rfl, hi, hb⟩
  have B2 := Lib.hid (B1.out.trans (hb.mono B1.out.size)); clear hb hi
  rw [show isGit { data := #[97] } = false from by rfl]
  generalize hfsDot _ _ = y1; generalize ntfsGit _ = y2; generalize hfsDot _ _ = y3
  go_wp2
  go_ret
  exact ⟨rfl, B2.out⟩
end Go.Proofs.YteipeagdflcjjaaDoor
