/- LebOf. -/
import Derived.Test.YtgibmkgibkhemaaDoorLeb
namespace Go.Proofs.YtgibmkgibkhemaaDoor
open Go.RowKit
set_option linter.unusedSimpArgs false
set_option linter.unusedVariables false

def LebOfPost (s : ByteArray) (k : Nat) (w : World) (e : Ending) (w' : World) : Prop :=
  ∃ r : ByteArray, e = .returned (.tuple #[.int .u64 (lebN (bx s) (k + 1) : Nat), .string r, .string ⟨#[]⟩]) ∧ nb r = (nb s).drop (k + 1) ∧ Below w.heap.size w w'

set_option maxRecDepth 100000 in
set_option maxHeartbeats 2000000 in
theorem lebOf_any (s : ByteArray) (k : Nat) (w : World) (hk : k < s.size) (hk7 : k ≤ 7) (hn : s.size ≤ 1000) (hcont : ∀ i, i < k → 128 ≤ bx s i) (hlast : bx s k < 128) :
    Calls Tryd.prog 7 #[.string s] w (LebOfPost s k w) := by
  have hconv := Lib.run_convert_string_bytes (P := Tryd.prog) w 9 38 5 s strKind bytesKind byteKind
  have HB := Lib.hid (bytesBelow w 5 s)
  have HA : Hid (∀ j, j < s.size → (Lib.bytesWorld w 5 s).cell? ⟨w.heap.size, j, none⟩ = some (.int .u8 (bx s j))) := Lib.hid fun j hj => (bytesAt_new w 5 s j hj).1
  have HC := Lib.hid hcont; clear hcont
  have HL := Lib.hid hlast; clear hlast
  have HCAP := Lib.hid (grownCap_ge w s.size 0 5)
  have HCAP2 := Lib.hid (grownCap_le_maxLen w s.size 0 5 (by unfold maxLen; omega))
  go_enter Tryd.func7, Tryd.ntmps7
  go_wp2_with fail
  clear hconv
  with_reducible refine (leb_any w.heap.size 0 s.size (grownCap w s.size 0 5) k (bx s) _ hk hk7 hn HCAP.out (Nat.le_trans HCAP2.out (by decide)) (fun i _ => bx_lt s i) HC.out HL.out (fun i hi => by rw [Nat.zero_add]; exact HA.out i hi)).mono ?_
  rintro e w' ⟨o, C, rfl, h1, h2, h3, hb⟩
  have HB2 := Lib.hid (HB.out.trans (hb.mono HB.out.size))
  have HCELL : Hid (∀ i, i < s.size - (k + 1) → w'.cell? ⟨w.heap.size, o + i, none⟩ = some (.int .u8 (bx s (k + 1 + i) : Nat))) := Lib.hid fun i hi => by
    have e := h3 (by omega)
    subst e
    have hl : w.heap.size < (Lib.bytesWorld w 5 s).heap.size := by rw [Lib.bytesWorld_size]; omega
    rw [hb.cell (p := ⟨w.heap.size, 0 + (k + 1) + i, none⟩) hl]
    have := HA.out (k + 1 + i) (by omega)
    rw [show 0 + (k + 1) + i = k + 1 + i by omega]
    exact this
  clear h1 h2 h3 hb
  have hcv : ∀ nq, (convert 38 9 (.slice (some ⟨w.heap.size, o, none⟩) (s.size - (k + 1)) C)).run Tryd.prog (w'.drewN nq) = .ok (.string (strOfNums ((List.range (s.size - (k + 1))).map fun i => (bx s (k + 1 + i) : Int)))) (w'.drewN nq) := fun nq =>
    run_convert_bytes_arg (w'.drewN nq) 38 5 bytesKind byteKind w.heap.size o _ C _ (by simp) (fun i hi => by
      have := HCELL.out i hi
      rw [show (w'.drewN nq).cell? ⟨w.heap.size, o + i, none⟩ = w'.cell? ⟨w.heap.size, o + i, none⟩ from rfl, this]
      simp [List.getD, hi]) 9 strKind
  have HR : Hid (nb (strOfNums ((List.range (s.size - (k + 1))).map fun i => (bx s (k + 1 + i) : Int))) = (nb s).drop (k + 1)) := Lib.hid (by
    have e : ((List.range (s.size - (k + 1))).map fun i => (bx s (k + 1 + i) : Int)) = ((nb s).drop (k + 1)).map fun c : Nat => (c : Int) := by
      refine List.ext_getElem (by simp [nb_length]) fun i h1 h2 => ?_
      simp [bx_getElem]
    rw [e, nb_strOfNums]
    intro c hc
    exact nb_lt (List.mem_of_mem_drop hc))
  generalize strOfNums ((List.range (s.size - (k + 1))).map fun i => (bx s (k + 1 + i) : Int)) = r at hcv HR
  go_wp2
  go_quiet (fail)
  go_wp2
  go_ret3
  exact ⟨r, rfl, HR.out, below_drewN HB2.out _⟩
end Go.Proofs.YtgibmkgibkhemaaDoor
