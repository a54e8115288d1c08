/- PathErr: ValidTreePath's error as a word. -/
import Derived.Test.YtdmkjfkdjhmpjaaDoorTree
import Derived.LaidEql
namespace Go.Proofs.YtdmkjfkdjhmpjaaDoor
open Go.RowKit
set_option linter.unusedSimpArgs false
set_option linter.unusedVariables false

set_option maxHeartbeats 400000 in
theorem word_nil (w : World) :
    Calls Tryd.prog 12 #[.nilIface] w fun e w' => e = .returned (.string ⟨#[]⟩) ∧ w = w' := by
  go_enter Tryd.func12, Tryd.ntmps12
  go_wp2
  go_ret
  exact ⟨rfl, rfl⟩

set_option maxHeartbeats 400000 in
theorem word_err (a : Addr) (msg : ByteArray) (w : World) (h : w.cell? a = some (.string msg)) :
    Calls Tryd.prog 12 #[.iface 51 (.pointer (some a))] w fun e w' => e = .returned (.string msg) ∧ w = w' := by
  have hm : ∀ w, (method 177 51 (.pointer (some a)) "Error").run Tryd.prog w = .ok (46, .pointer (some a)) w := fun _ => by kernel_rfl
  go_enter Tryd.func12, Tryd.ntmps12
  go_wp2
  go_ret
  exact ⟨rfl, rfl⟩

def PathPost (s : ByteArray) (w : World) (e : Ending) (w' : World) : Prop :=
  ∃ (L : List ByteArray) (r : ByteArray), L.map nb = parts (nb s) ∧ Below w.heap.size w w' ∧ e = .returned (.string r) ∧ (PathOk s L → r.size = 0) ∧ (¬ PathOk s L → r.size ≠ 0)

set_option maxHeartbeats 400000 in
theorem pathErr_any (s : ByteArray) (a : Addr) (msg : ByteArray) (w : World) (hs : s.size ≤ 10000) (hv : ErrVar w a msg) :
    Calls Tryd.prog 9 #[.string s] w (PathPost s w) := by
  have HV := Lib.hid hv; clear hv
  go_enter Tryd.func9, Tryd.ntmps9
  go_wp2_with fail
  with_reducible refine (tree_any s a msg _ hs HV.out).mono ?_
  rintro e w1 ⟨L, hL, hb, ⟨hok, rfl⟩ | ⟨hok, rfl⟩⟩
  · have HL := Lib.hid hL
    have HB := Lib.hid hb
    have HOK := Lib.hid hok
    clear hL hb hok
    go_wp2_with fail
    with_reducible refine (word_nil _).mono ?_
    rintro e w2 ⟨rfl, rfl⟩
    go_wp2
    go_ret
    exact ⟨L, _, HL.out, HB.out, rfl, fun _ => rfl, fun h => absurd HOK.out h⟩
  · have HL := Lib.hid hL
    have HB := Lib.hid hb
    have HOK := Lib.hid hok
    have ht := Lib.hid (HV.out.below hb).text
    clear hL hb hok
    go_wp2_with fail
    with_reducible refine (word_err _ _ _ ht.out).mono ?_
    rintro e w2 ⟨rfl, rfl⟩
    go_wp2
    go_ret
    exact ⟨L, _, HL.out, HB.out, rfl, fun h => absurd h HOK.out, fun _ => HV.out.some⟩
end Go.Proofs.YtdmkjfkdjhmpjaaDoor
