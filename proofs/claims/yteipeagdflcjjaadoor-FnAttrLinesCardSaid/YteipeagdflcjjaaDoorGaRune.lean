/- zzRune, zzEsc of gitattributes: the same walk as gitignore's. -/
import Derived.Test.YteipeagdflcjjaaDoorRune
import Derived.Laws.IdiomStrings
import Derived.Lib.OthersKept
import Derived.Deep.DeepCutAuto
import Derived.Deep.QuietTactic
import Derived.BigQuiet
namespace Go.Proofs.YteipeagdflcjjaaDoor.Ga
open Go.RowKit
set_option linter.unusedSimpArgs false
set_option linter.unusedVariables false
set_option maxHeartbeats 1000000 in
theorem zzRune_any (s : ByteArray) (w : World) (h1 : 1 ≤ s.size) (hs : s.size ≤ 1000) (ha : Asc s) :
    Calls Tryd.prog 140 #[.string s] w (RunePost s w) := by
  have HA := Lib.hid ha; clear ha
  go_enter Tryd.func140, Tryd.ntmps140
  go_wp2
  generalize hB1 : w.heap.size = b1
  have HB1 := Lib.hid hB1; clear hB1
  have hit0 : (w.iter s 0).heap[b1]? = some (.stringIter s 0) := by rw [← HB1.out]; exact World.iter_heap _ _ _
  have hb0 : Below b1 w (w.iter s 0) := (Below.refl _ _).alloc (by rw [← HB1.out]; exact Nat.le_refl _) _
  generalize w.iter s 0 = w1 at hit0 hb0
  have HB0 := Lib.hid hb0; clear hb0
  have HI0 := Lib.hid hit0; clear hit0
  go_loopw [4] (fun i wr => ∃ j, (j = 0 ∨ j = 1) ∧ j ≤ s.size ∧ Below b1 w wr ∧ wr.heap[b1]? = some (.stringIter s j)) (fun _ wr => s.size - wr.iterPos b1)
  case atStart => exact ⟨0, .inl rfl, by omega, HB0.out, HI0.out⟩
  case round =>
    clear HB0 HI0
    obtain ⟨j, hj, hjs, hbw, hit⟩ := hrel
    have hlb : b1 < wr.heap.size := (Array.getElem?_eq_some_iff.1 hit).1
    by_cases hlt : j < s.size
    · have hx := HA.out j hlt
      have hnx := Lib.run_next_ascii_at (P := Tryd.prog) wr b1 s j 0 hit hlt (by rw [bx_get]; exact hx)
      rw [bx_get] at hnx
      have hb2 : Below b1 w (wr.iterAt b1 s (j + 1)) := Lib.below_iterAt hbw (Nat.le_refl _) _ _
      have hi2 := Lib.iterAt_heap wr b1 s j (j + 1) hit
      have hsz2 : b1 < (wr.iterAt b1 s (j + 1)).heap.size := (Array.getElem?_eq_some_iff.1 hi2).1
      have hp1 : wr.iterPos b1 = j := by simp [World.iterPos, hit]
      have HP1 := Lib.hid hp1; clear hp1
      rcases hj with rfl | rfl
      · go_wp2
        generalize wr.iterAt b1 s (0 + 1) = w3 at *
        have hp2 : w3.iterPos b1 = 0 + 1 := by simp [World.iterPos, hi2]
        go_roundw
        case rel => exact ⟨1, .inr rfl, by omega, hb2, hi2⟩
        case measure => rw [HP1.out, hp2]; omega
      · have hz : ((1 : Int) > 0) := by decide
        have hx0 := HA.out 0 (by omega)
        go_wp2
        generalize wr.iterAt b1 s (1 + 1) = w3 at *
        have hB3 : Below w3.heap.size w3 (w3.iter (s.extract 0 1) 0) := (Below.refl _ _).alloc (Nat.le_refl _) _
        have hb4 : Below b1 w (w3.iter (s.extract 0 1) 0) := hb2.trans (hB3.mono (by omega))
        have hi4 : (w3.iter (s.extract 0 1) 0).heap[w3.heap.size]? = some (.stringIter (s.extract 0 1) 0) := World.iter_heap _ _ _
        have hx1 : (s.extract 0 1).size = 1 := by rw [ByteArray.size_extract]; omega
        have hx2 : bx (s.extract 0 1) 0 = bx s 0 := bx_extract s 0 1 0 (by omega)
        generalize w3.heap.size = b3 at *
        generalize w3.iter (s.extract 0 1) 0 = w4 at *
        generalize s.extract 0 1 = x1 at *
        go_loopw [8] (fun _ wr => Below b1 w wr ∧ wr.heap[b3]? = some (.stringIter x1 0)) (fun _ wr => 0)
        case atStart => exact ⟨hb4, hi4⟩
        case round =>
          obtain ⟨hbw5, hit5⟩ := hrel
          have hnx5 := Lib.run_next_ascii_at (P := Tryd.prog) wr b3 x1 0 0 hit5 (by omega) (by rw [bx_get, hx2]; exact hx0)
          rw [bx_get, hx2] at hnx5
          have hb5 : Below b1 w (wr.iterAt b3 x1 (0 + 1)) := Lib.below_iterAt hbw5 (by omega) _ _
          go_wp2
          go_ret2
          exact ⟨rfl, HB1.out ▸ hb5⟩
    · have hj1 : j = 1 := by omega
      subst hj1
      have hs1 : s.size = 1 := by omega
      have hx0 := HA.out 0 (by omega)
      have hnx := Lib.run_next_end_at (P := Tryd.prog) wr b1 s 1 0 hit hlt
      have hb4 : Below b1 w (wr.iter s 0) := hbw.trans ((Below.refl b1 wr).alloc (by omega) _)
      have hi4 : (wr.iter s 0).heap[wr.heap.size]? = some (.stringIter s 0) := World.iter_heap _ _ _
      go_wp2
      generalize hb3 : wr.heap.size = b3 at *
      generalize wr.iter s 0 = w4 at *
      go_loopw [10] (fun _ wr => Below b1 w wr ∧ wr.heap[b3]? = some (.stringIter s 0)) (fun _ wr => 0)
      case atStart => exact ⟨hb4, hi4⟩
      case round =>
        obtain ⟨hbw5, hit5⟩ := hrel
        have hnx5 := Lib.run_next_ascii_at (P := Tryd.prog) wr b3 s 0 0 hit5 (by omega) (by rw [bx_get]; exact hx0)
        rw [bx_get] at hnx5
        have hb5 : Below b1 w (wr.iterAt b3 s (0 + 1)) := Lib.below_iterAt hbw5 (by omega) _ _
        go_wp2
        go_ret2
        exact ⟨rfl, HB1.out ▸ hb5⟩
set_option maxHeartbeats 1000000 in
theorem zzEsc_any (s : ByteArray) (w : World) (h1 : 2 ≤ s.size) (hs : s.size ≤ 1000) (ha : Asc s) (hl : letter (bx s 0)) :
    Calls Tryd.prog 141 #[.string s] w (EscPost s w) := by
  have HA := Lib.hid ha; clear ha
  have hb := bx_get s 0 (by omega)
  have hx := HA.out 0 (by omega)
  obtain ⟨hl1, hl2⟩ := hl
  generalize hc : bx s 0 = c at hb hx hl1 hl2
  have HC := Lib.hid hc; clear hc
  have e1 : ((s.size : Int) == 0) = false := beq_eq_false_iff_ne.mpr (by omega)
  have e2 : ((c : Int) == 45) = false := by simp; omega
  have e3 : ((c : Int) == 93) = false := by simp; omega
  have e4 : ((c : Int) == 92) = false := by simp; omega
  have e5 : ((c : Int) == 65533) = false := beq_eq_false_iff_ne.mpr (by omega)
  have hz : (s.extract 1 s.size).size = s.size - 1 := size_tail s 1
  have e6 : (((s.extract 1 s.size).size : Int) == 0) = false := beq_eq_false_iff_ne.mpr (by rw [hz]; omega)
  clear hz
  go_enter Tryd.func141, Tryd.ntmps141
  go_wp2_with fail
  with_reducible refine (zzRune_any s w (by omega) hs HA.out).mono ?_
  rintro e w' ⟨rfl, hb'⟩
  rw [HC.out]
  have HB := Lib.hid hb'; clear hb'
  go_wp2
  go_ret3
  exact ⟨by rw [HC.out]; rfl, HB.out⟩
end Go.Proofs.YteipeagdflcjjaaDoor.Ga
