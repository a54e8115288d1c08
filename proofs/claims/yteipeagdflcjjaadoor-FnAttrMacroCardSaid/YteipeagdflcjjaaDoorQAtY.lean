/- impl.AttrLine where there is nothing, and where a name is refused. -/
import Derived.Test.YteipeagdflcjjaaDoorQAtN
import Derived.Test.YteipeagdflcjjaaDoorQAtX
namespace Go.Proofs.YteipeagdflcjjaaDoor
open Go.RowKit
set_option linter.unusedSimpArgs false
set_option linter.unusedVariables false

set_option maxHeartbeats 400000 in
theorem errString_any (a : Addr) (msg : ByteArray) (w : World) (h : w.cell? a = some (.string msg)) :
    Calls Tryd.prog 142 #[.pointer (some a)] w fun e w' => e = .returned (.string msg) ∧ w = w' := by
  go_enter Tryd.func142, Tryd.ntmps142
  go_wp2
  go_ret
  exact ⟨rfl, rfl⟩

def OutNone (w : World) (e : Ending) (w' : World) : Prop :=
  e = .returned (.tuple #[.string ⟨#[]⟩, .bool false, .slice none 0 0, .string ⟨#[]⟩]) ∧ Below w.heap.size w w'
def OutBad (msg : ByteArray) (w : World) (e : Ending) (w' : World) : Prop :=
  e = .returned (.tuple #[.string ⟨#[]⟩, .bool false, .slice none 0 0, .string msg]) ∧ Below w.heap.size w w'

set_option maxRecDepth 100000 in
set_option maxHeartbeats 4000000 in
theorem attrNone_any (s : ByteArray) (allow : Bool) (w : World) (hp : ∀ W, Calls Tryd.prog 40 #[.string s, .slice none 0 0, .bool allow] W (NoneLine W)) :
    Calls Tryd.prog 26 #[.string s, .slice none 0 0, .bool allow] w (OutNone w) := by
  have HPP := Lib.hid hp
  clear hp
  have happ : ∀ W : World, (Builtin.append_ #[23, 23] 23 #[.slice none 0 0, .slice none 0 0]).run Tryd.prog W = .ok (.slice none 0 0) W := fun _ => by kernel_rfl
  go_enter Tryd.func26, Tryd.ntmps26
  go_wp2_with fail
  with_reducible refine (HPP.out w).mono ?_
  rintro e W1 ⟨rfl, hb1⟩
  have HB1 := Lib.hid hb1
  clear hb1 HPP happ
  go_upto_region 2 with (fail)
  have hr2 : Hid ((W1.alloc (.cells #[.string ⟨#[]⟩, .nilIface, .slice none 0 0] 87)).heap[W1.heap.size]? = some (.cells #[.string ⟨#[]⟩, .nilIface, .slice none 0 0] 87 (0, 0))) := Lib.hid (heap_new W1 _)
  have HB2 : Hid (Below w.heap.size w (W1.alloc (.cells #[.string ⟨#[]⟩, .nilIface, .slice none 0 0] 87))) := Lib.hid (HB1.out.alloc HB1.out.size _)
  generalize W1.heap.size = mb at *
  generalize W1.alloc (.cells #[.string ⟨#[]⟩, .nilIface, .slice none 0 0] 87) = W2 at hr2 HB2 ⊢
  have m0 : W2.cell? ⟨mb, 0, none⟩ = some (.string ⟨#[]⟩) := by rw [Lib.cell_of_heap hr2.out]; rfl
  have m1 : W2.cell? ⟨mb, 1, none⟩ = some .nilIface := by rw [Lib.cell_of_heap hr2.out]; rfl
  have m2 : W2.cell? ⟨mb, 2, none⟩ = some (.slice none 0 0) := by rw [Lib.cell_of_heap hr2.out]; rfl
  clear hr2 HB1
  go_wp2
  go_loop [8, 29] (fun l i => l = .slice none 0 0 ∧ i = .int .i64 0) (fun _ _ => 0)
  case atStart => exact ⟨rfl, rfl⟩
  case round =>
    obtain ⟨rfl, rfl⟩ := hrel
    go_wp2
    go_quiet (fail)
    go_wp2
    refine bodyPost_ret (results_tmp4 rfl _ _ _) rfl ?_
    exact ⟨rfl, below_drewN HB2.out _⟩

set_option maxRecDepth 100000 in
set_option maxHeartbeats 4000000 in
theorem attrBad_any (s : ByteArray) (allow : Bool) (a : Addr) (msg : ByteArray) (g : Nat) (w : World) (hv : ErrAt w g a msg) (hp : Calls Tryd.prog 40 #[.string s, .slice none 0 0, .bool allow] w (BadLine a w)) :
    Calls Tryd.prog 26 #[.string s, .slice none 0 0, .bool allow] w (OutBad msg w) := by
  have HPP := Lib.hid hp
  have HEV := Lib.hid hv
  clear hp hv
  have happ : ∀ W : World, (Builtin.append_ #[23, 23] 23 #[.slice none 0 0, .slice none 0 0]).run Tryd.prog W = .ok (.slice none 0 0) W := fun _ => by kernel_rfl
  have hnil : ∀ w, (nilAhead 321 178 (.pointer (some a)) "Error").run Tryd.prog w = .ok (some false) w := fun _ => by kernel_rfl
  have hm : ∀ w, (method 321 178 (.pointer (some a)) "Error").run Tryd.prog w = .ok (142, .pointer (some a)) w := fun _ => by kernel_rfl
  go_enter Tryd.func26, Tryd.ntmps26
  go_wp2_with fail
  with_reducible refine HPP.out.mono ?_
  rintro e W1 ⟨x, A, n, c, rfl, hb1⟩
  have HB1 := Lib.hid hb1
  clear hb1 HPP happ
  go_upto_region 2 with (fail)
  have HB2 : Hid (Below w.heap.size w (W1.alloc (.cells #[.string x, .nilIface, .slice A n c] 87))) := Lib.hid (HB1.out.alloc HB1.out.size _)
  generalize W1.alloc (.cells #[.string x, .nilIface, .slice A n c] 87) = W2 at HB2 ⊢
  have ht := (HEV.out.below HB2.out).text
  clear HB1
  go_wp2_with fail
  with_reducible refine (errString_any a msg _ ht).mono ?_
  rintro e W3 ⟨rfl, rfl⟩
  go_wp2
  refine bodyPost_ret (results_tmp4 rfl _ _ _) rfl ?_
  exact ⟨rfl, HB2.out⟩
end Go.Proofs.YteipeagdflcjjaaDoor
