/- newDeltaIndexScanner. -/
import Derived.Test.YtgibmkgibkhemaaDoorDcN
import Derived.BigRegion
namespace Go.Proofs.YtgibmkgibkhemaaDoor
open Go.RowKit
set_option linter.unusedSimpArgs false
set_option linter.unusedVariables false

theorem intInf : (Tryd.prog.info? 3).map (fun i => (i.zero, i.size, i.bytes)) = some (some (.int .i64 0), 1, 8) := by kernel_rfl
theorem intsKind : Tryd.prog.underlying 75 = some (.slice 3) := by kernel_rfl
theorem makeInts (n : Nat) (h : n ≤ 1000) (w : World) : (Instr.makeSlice 75 (.int .i64 (n : Int)) (.int .i64 (n : Int))).run Tryd.prog w = .ok (.slice (some ⟨w.heap.size, 0, none⟩) n n) (w.alloc (.cells (madeCells #[.int .i64 0] n) 3)) :=
  run_make_row' (P := Tryd.prog) 75 3 (.int .i64 0) 8 intsKind intInf rfl .i64 .i64 n (by omega) (by omega) w
/-- The scanner's block of a source that has no whole block. -/
def NoScan (sc : Nat) (w : World) : Prop := w.heap[sc]? = some (.cells #[.slice none 0 0, .slice none 0 0, .slice none 0 0, .int .i64 0, .int .i64 0] scT (0, 0))
def NewPost (S : List Nat) (w : World) (e : Ending) (w' : World) : Prop :=
  ∃ sc, e = .returned (.pointer (some ⟨sc, 0, none⟩)) ∧ w.heap.size ≤ sc ∧ Below w.heap.size w w' ∧
    ((S.length < 16 ∧ NoScan sc w') ∨
     (16 ≤ S.length ∧ ∃ (tb en nx tn m cnt : Nat) (T E N : Nat → Nat), ScSt w' sc tb en nx tn m cnt T E N S.length ∧ w.heap.size ≤ tb ∧ w.heap.size ≤ en ∧ w.heap.size ≤ nx ∧ 1 ≤ tn ∧ tn ≤ 64 ∧ m ≤ 63))
theorem made4 {w1 V : World} {A B C D : Obj} (h : ((((w1.alloc A).alloc B).alloc C).alloc D).drew = V) :
    V.heap[w1.heap.size]? = some A ∧ V.heap[w1.heap.size + 1]? = some B ∧ V.heap[w1.heap.size + 1 + 1]? = some C ∧ V.heap[w1.heap.size + 1 + 1 + 1]? = some D ∧ Below w1.heap.size w1 V := by
  subst h
  have s1 : (w1.alloc A).heap.size = w1.heap.size + 1 := heap_new_size _ _
  have s2 : ((w1.alloc A).alloc B).heap.size = w1.heap.size + 1 + 1 := by rw [heap_new_size, s1]
  have s3 : (((w1.alloc A).alloc B).alloc C).heap.size = w1.heap.size + 1 + 1 + 1 := by rw [heap_new_size, s2]
  have hb := ((((Below.refl w1.heap.size w1).alloc (Nat.le_refl _) A).alloc (by rw [s1]; omega) B).alloc (by rw [s2]; omega) C).alloc (by rw [s3]; omega) D
  refine ⟨?_, ?_, ?_, ?_, ⟨hb.os, hb.tape, hb.output, hb.size, hb.block⟩⟩
  · show ((((w1.alloc A).alloc B).alloc C).alloc D).heap[w1.heap.size]? = _
    rw [Below.heap_alloc _ _ _ (by rw [s3]; omega), Below.heap_alloc _ _ _ (by rw [s2]; omega), Below.heap_alloc _ _ _ (by rw [s1]; omega), heap_new]
  · show ((((w1.alloc A).alloc B).alloc C).alloc D).heap[w1.heap.size + 1]? = _
    rw [Below.heap_alloc _ _ _ (by rw [s3]; omega), Below.heap_alloc _ _ _ (by rw [s2]; omega), ← s1, heap_new]
  · show ((((w1.alloc A).alloc B).alloc C).alloc D).heap[w1.heap.size + 1 + 1]? = _
    rw [Below.heap_alloc _ _ _ (by rw [s3]; omega), ← s2, heap_new]
  · show ((((w1.alloc A).alloc B).alloc C).alloc D).heap[w1.heap.size + 1 + 1 + 1]? = _
    rw [← s3, heap_new]
theorem IR.of_made {V : World} {g n : Nat} (h : V.heap[g]? = some (.cells (madeCells #[.int .i64 0] n) 3)) : IR V g n (fun _ => 0) := by
  refine ⟨_, h, size_madeCells _ _, fun i hi => ?_⟩
  unfold madeCells
  simp [hi, Nat.mod_one]
theorem sc_mk {V : World} {sc tb en nx tn m n : Nat} (hD : V.heap[sc]? = some (.cells #[.slice (some ⟨tb, 0, none⟩) tn tn, .slice (some ⟨en, 0, none⟩) m m, .slice (some ⟨nx, 0, none⟩) m m, .int .i64 ((tn : Int) - 1), .int .i64 0] scT))
    (hT : V.heap[tb]? = some (.cells (madeCells #[.int .i64 0] tn) 3)) (hE : V.heap[en]? = some (.cells (madeCells #[.int .i64 0] m) 3)) (hN : V.heap[nx]? = some (.cells (madeCells #[.int .i64 0] m) 3))
    (h1 : sc ≠ tb) (h2 : sc ≠ en) (h3 : sc ≠ nx) (h4 : tb ≠ en) (h5 : tb ≠ nx) (h6 : en ≠ nx) (hm : 0 < m) : ScSt V sc tb en nx tn m 0 (fun _ => 0) (fun _ => 0) (fun _ => 0) n :=
  ⟨hD, IR.of_made hT, IR.of_made hE, IR.of_made hN, h1, h2, h3, h4, h5, h6, hm, fun _ _ => Nat.le_refl _, fun _ _ => Nat.zero_le _, fun _ _ => Nat.zero_le _⟩
set_option maxRecDepth 100000 in
set_option maxHeartbeats 16000000 in
theorem newScanner_any (rb c : Nat) (S : List Nat) (w : World) (hS : S.length ≤ 1000) (hS2 : ∀ i, S.getD i 0 < 256) (hrb : rb < w.heap.size) (hbr : BR w rb S) :
    Calls Tryd.prog 50 #[.slice (some ⟨rb, 0, none⟩) S.length c, .int .i64 (S.length : Nat)] w (NewPost S w) := by
  obtain ⟨n, hn⟩ : ∃ n, n = S.length := ⟨_, rfl⟩
  obtain ⟨k, hk⟩ : ∃ k, k = n / 16 := ⟨_, rfl⟩
  have HN := Lib.hid hn; have HBR := Lib.hid hbr; have HS2 := Lib.hid hS2
  rw [← hn] at hS ⊢
  have hS0 := hS
  have e1 : (n : Int) - (n : Int) % 16 = ((16 * k : Nat) : Int) := by omega
  have HK := Lib.hid hk
  have hkn : 16 * k ≤ n ∧ n < 16 * k + 16 := by omega
  have hk62 : k ≤ 62 := by omega
  clear hn hbr hS2 hk
  by_cases h16 : k = 0
  · subst h16
    go_enter Tryd.func50, Tryd.ntmps50
    go_wp2
    go_ret
    exact ⟨w.heap.size, rfl, Nat.le_refl _, (Below.refl _ _).alloc (Nat.le_refl _) _, .inl ⟨by rw [← HN.out]; omega, heap_new _ _⟩⟩
  have hk1 : 1 ≤ k := by omega
  have HTS := Lib.hid (fun w => tableSize_any k w hk1 (by omega))
  have hq : ¬ (k : Int) < 1 := by omega
  go_enter Tryd.func50, Tryd.ntmps50
  go_wp2_with fail
  with_reducible refine (HTS.out _).mono ?_
  rintro e w1 ⟨tn, rfl, t1, t2, hb1⟩
  have HB1 := Lib.hid hb1
  clear hb1 HTS
  go_upto_region 6 with (fail)
  have mk1 := fun W => makeInts tn (by omega) W
  have mk2 : ∀ W, (Instr.makeSlice 75 (.int .i64 ((k : Int) + 1)) (.int .i64 ((k : Int) + 1))).run Tryd.prog W = .ok (.slice (some ⟨W.heap.size, 0, none⟩) (k + 1) (k + 1)) (W.alloc (.cells (madeCells #[.int .i64 0] (k + 1)) 3)) := fun W => makeInts (k + 1) (by omega) W
  go_region
  all_goals
    generalize hV : World.drew _ = V
    obtain ⟨hA, hB, hC, hD, hbV⟩ := made4 hV
    have hS : ∃ tb en nx, ScSt V (w1.heap.size + 1 + 1 + 1) tb en nx tn (k + 1) 0 (fun _ => 0) (fun _ => 0) (fun _ => 0) n ∧ w1.heap.size ≤ tb ∧ w1.heap.size ≤ en ∧ w1.heap.size ≤ nx := by
      first
        | exact ⟨_, _, _, sc_mk hD hA hB hC (by omega) (by omega) (by omega) (by omega) (by omega) (by omega) (by omega), by omega, by omega, by omega⟩
        | exact ⟨_, _, _, sc_mk hD hA hC hB (by omega) (by omega) (by omega) (by omega) (by omega) (by omega) (by omega), by omega, by omega, by omega⟩
        | exact ⟨_, _, _, sc_mk hD hB hA hC (by omega) (by omega) (by omega) (by omega) (by omega) (by omega) (by omega), by omega, by omega, by omega⟩
        | exact ⟨_, _, _, sc_mk hD hB hC hA (by omega) (by omega) (by omega) (by omega) (by omega) (by omega) (by omega), by omega, by omega, by omega⟩
        | exact ⟨_, _, _, sc_mk hD hC hA hB (by omega) (by omega) (by omega) (by omega) (by omega) (by omega) (by omega), by omega, by omega, by omega⟩
        | exact ⟨_, _, _, sc_mk hD hC hB hA (by omega) (by omega) (by omega) (by omega) (by omega) (by omega) (by omega), by omega, by omega, by omega⟩
    obtain ⟨tb, en, nx, hst, lb1, lb2, lb3⟩ := hS
    have hw1 := HB1.out.size
    have HBV : Hid (Below w.heap.size w V) := Lib.hid (HB1.out.trans (hbV.mono HB1.out.size))
    have HST := Lib.hid hst
    have HSC := Lib.hid (scan_any w.heap.size (w1.heap.size + 1 + 1 + 1) tb en nx tn (k + 1) rb n c k S _ _ _ V (by rw [← HN.out]; exact hst) HBV.out.size ⟨by omega, by omega, by omega, by omega⟩ t1 t2 rfl hk1 (by rw [← HN.out]; exact hkn.1) (by rw [← HN.out]; exact hS0) HS2.out HN.out hrb
      ⟨Nat.lt_of_lt_of_le hrb HBV.out.size, fun i hi => (HBV.out.cell (p := ⟨rb, i, none⟩) hrb).trans (HBR.out.2 i hi)⟩)
    have hlo : w.heap.size ≤ w1.heap.size + 1 + 1 + 1 ∧ w.heap.size ≤ tb ∧ w.heap.size ≤ en ∧ w.heap.size ≤ nx := ⟨by omega, by omega, by omega, by omega⟩
    clear hA hB hC hD hV hst hbV mk1 mk2
    have e2 : ((16 * k : Nat) : Int) = 16 * (k : Int) := by omega
    rw [e2] at HSC
    generalize w1.heap.size + 1 + 1 + 1 = sc at HSC hlo ⊢
    go_wp2_with fail
    with_reducible refine HSC.out.mono ?_
    rintro e w5 ⟨rfl, cnt, T, E, N, hst5, hb5⟩
    have HST5 := Lib.hid hst5; have HB5 : Hid (Below w.heap.size w w5) := Lib.hid (HBV.out.trans hb5)
    clear hst5 hb5
    go_wp2
    go_ret
    exact ⟨sc, rfl, hlo.1, HB5.out, .inr ⟨by rw [← HN.out]; omega, tb, en, nx, tn, k + 1, cnt, T, E, N, HST5.out, hlo.2.1, hlo.2.2.1, hlo.2.2.2, t1, t2, by omega⟩⟩
end Go.Proofs.YtgibmkgibkhemaaDoor
