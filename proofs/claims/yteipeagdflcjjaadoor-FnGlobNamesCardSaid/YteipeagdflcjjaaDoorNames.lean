/- Names that are .git: IsDotGitName, spec.DisguiseName. -/
import Derived.Test.YteipeagdflcjjaaDoorLow
namespace Go.Proofs.YteipeagdflcjjaaDoor
open Go.RowKit

def dotGit : List Nat := [46, 103, 105, 116]
def gitOne : List Nat := [103, 105, 116, 126, 49]

set_option maxHeartbeats 400000 in
theorem isDotGitName_any (s : ByteArray) (w : World) (hs : s.size ≤ maxLen) :
    Calls Tryd.prog 46 #[.string s] w fun e w' => e = .returned (.bool (lowS (nb s) == dotGit || lowS (nb s) == gitOne)) ∧ Below w.heap.size w w' := by
  go_enter Tryd.func46, Tryd.ntmps46
  go_wp2_with (go_at_call 68; refine (zzLower_any _ _ hs).mono ?_; rintro e w' ⟨r, rfl, hr, hb⟩; have HR := Lib.hid hr; have HB := Lib.hid hb; clear hr hb)
  all_goals (go_ret; refine ⟨ret_bool ?_, HB.out⟩; have hr := HR.out; simp_all [beq_str, dotGit, gitOne])

end Go.Proofs.YteipeagdflcjjaaDoor
