/- deltaIndex.init. -/
import Derived.Test.YtgibmkgibkhemaaDoorDcQ
namespace Go.Proofs.YtgibmkgibkhemaaDoor
open Go.RowKit
set_option linter.unusedSimpArgs false
set_option linter.unusedVariables false

theorem countEntries_no (sc : Nat) (w : World) (h : NoScan sc w) : Calls Tryd.prog 51 #[.pointer (some ⟨sc, 0, none⟩)] w fun e w' => e = .returned (.int .i64 0) ∧ w' = w := by
  have f0 : w.cell? ⟨sc, 0, none⟩ = some (.slice none 0 0) := by rw [Lib.cell_of_heap h]; rfl
  go_enter Tryd.func51, Tryd.ntmps51
  go_wp2
  go_loop [2, 3] (fun cv iv => cv = .int .i64 0 ∧ iv = .int .i64 0) (fun _ _ => 0)
  case atStart => exact ⟨rfl, rfl⟩
  case round =>
    obtain ⟨rfl, rfl⟩ := hrel
    go_wp2
    go_ret
    exact ⟨rfl, rfl⟩
theorem copyEntries_no (ix sc : Nat) (w : World) (h : w.cell? ⟨ix, 0, none⟩ = some (.slice none 0 0)) : Calls Tryd.prog 52 #[.pointer (some ⟨ix, 0, none⟩), .pointer (some ⟨sc, 0, none⟩)] w fun e w' => e = .returned (.tuple #[]) ∧ w' = w := by
  go_enter Tryd.func52, Tryd.ntmps52
  go_wp2
  go_loop [4, 5] (fun nv iv => nv = .int .i64 1 ∧ iv = .int .i64 0) (fun _ _ => 0)
  case atStart => exact ⟨rfl, rfl⟩
  case round =>
    obtain ⟨rfl, rfl⟩ := hrel
    go_wp2
    go_returns
    exact ⟨rfl, rfl⟩
theorem ScSt.other {w : World} {sc tb en nx tn m cnt : Nat} {T E N : Nat → Nat} {L : Nat} (h : ScSt w sc tb en nx tn m cnt T E N L) {a : Addr} (h1 : a.block ≠ sc) (h2 : a.block ≠ tb) (h3 : a.block ≠ en) (h4 : a.block ≠ nx) (v : Value) : ScSt (w.setCell a v) sc tb en nx tn m cnt T E N L :=
  ⟨by rw [heap_setCell_other h1]; exact h.row, h.t.other h2 v, h.e.other h3 v, h.n.other h4 v, h.st, h.se, h.sn, h.te, h.tx, h.ex, h.cm, h.tv, h.nv, h.ev⟩
theorem makeInts2 (n : Nat) (h : n ≤ 10000) (w : World) : (Instr.makeSlice 75 (.int .i64 (n : Int)) (.int .i64 (n : Int))).run Tryd.prog w = .ok (.slice (some ⟨w.heap.size, 0, none⟩) n n) (w.alloc (.cells (madeCells #[.int .i64 0] n) 3)) :=
  run_make_row' (P := Tryd.prog) 75 3 (.int .i64 0) 8 intsKind intInf rfl .i64 .i64 n (by omega) (by omega) w
/-- The index after its init: of a short source nothing is told. -/
def InitPost (ix : Nat) (S : List Nat) (w : World) (e : Ending) (w' : World) : Prop :=
  e = .returned (.tuple #[]) ∧ Kp (fun k => k = ix) w w' ∧
    (S.length < 16 ∨ ∃ (tb e2 tn M : Nat) (T2 E2 : Nat → Nat), IxSt w' ix tb e2 tn M M T2 E2 S.length ∧ w.heap.size ≤ tb ∧ w.heap.size ≤ e2 ∧ 1 ≤ tn ∧ tn ≤ 64 ∧ M ≤ 5000)
def ixZero : Array Value := #[.slice none 0 0, .slice none 0 0, .int .i64 0]
set_option maxRecDepth 100000 in
set_option maxHeartbeats 8000000 in
theorem init_any (ix rb c : Nat) (S : List Nat) (w : World) (hix : w.heap[ix]? = some (.cells ixZero ixT (0, 0))) (hS : S.length ≤ 1000) (hS2 : ∀ i, S.getD i 0 < 256) (hrb : rb < w.heap.size) (hbr : BR w rb S) :
    Calls Tryd.prog 38 #[.pointer (some ⟨ix, 0, none⟩), .slice (some ⟨rb, 0, none⟩) S.length c] w (InitPost ix S w) := by
  have HNS := Lib.hid (newScanner_any rb c S w hS hS2 hrb hbr)
  have HIX := Lib.hid hix
  have hixl : ix < w.heap.size := Lib.lt_of_heap hix
  obtain ⟨n, hn⟩ : ∃ n, n = S.length := ⟨_, rfl⟩
  have HN := Lib.hid hn
  rw [← hn] at HNS hS ⊢
  clear hix hn hbr hrb hS2
  go_enter Tryd.func38, Tryd.ntmps38
  go_wp2_with fail
  with_reducible refine HNS.out.mono ?_
  rintro e w1 ⟨sc, rfl, hsc, hb1, hcase⟩
  have HB1 := Lib.hid hb1
  have hrow1 : w1.heap[ix]? = some (.cells ixZero ixT (0, 0)) := (hb1.block ix hixl).trans HIX.out
  have c0 : w1.cell? ⟨ix, 0, none⟩ = some (.slice none 0 0) := by rw [Lib.cell_of_heap hrow1]; rfl
  have c1 : w1.cell? ⟨ix, 1, none⟩ = some (.slice none 0 0) := by rw [Lib.cell_of_heap hrow1]; rfl
  have c2 : w1.cell? ⟨ix, 2, none⟩ = some (.int .i64 0) := by rw [Lib.cell_of_heap hrow1]; rfl
  have g0 : w1.frozen? ⟨ix, 0, none⟩ = false := Lib.frozen_of_heap hrow1 0
  have g1 : w1.frozen? ⟨ix, 1, none⟩ = false := Lib.frozen_of_heap hrow1 1
  have g2 : w1.frozen? ⟨ix, 2, none⟩ = false := Lib.frozen_of_heap hrow1 2
  have HROW := Lib.hid hrow1
  clear hb1 hrow1 HNS
  have hne : ix ≠ sc := by omega
  rcases hcase with ⟨hlt, hno⟩ | ⟨hge, tb, en, nx, tn, m, cnt, T, E, N, hst, l1, l2, l3, t1, t2, hm63⟩
  · have HNO := Lib.hid hno
    have f0 : w1.cell? ⟨sc, 0, none⟩ = some (.slice none 0 0) := by rw [Lib.cell_of_heap hno]; rfl
    have f3 : w1.cell? ⟨sc, 3, none⟩ = some (.int .i64 0) := by rw [Lib.cell_of_heap hno]; rfl
    clear hno
    go_upto_region 2 with (fail)
    have R2 := Lib.hid (heap_setCell_same (i := 2) HROW.out (.int .i64 0))
    have N2 : Hid (NoScan sc (w1.setCell ⟨ix, 2, none⟩ (.int .i64 0))) := Lib.hid (by unfold NoScan; rw [heap_setCell_other (by exact hne)]; exact HNO.out)
    have K2 : Hid (Kp (fun k => k = ix) w (w1.setCell ⟨ix, 2, none⟩ (.int .i64 0))) := Lib.hid ((Kp.of_below HB1.out (fun k => k = ix)).setCell (p := ⟨ix, 2, none⟩) (.inl rfl) _)
    generalize w1.setCell _ _ = w2 at R2 N2 K2 ⊢
    clear c0 c1 c2 g0 g1 g2 f0 f3
    have f0 : w2.cell? ⟨sc, 0, none⟩ = some (.slice none 0 0) := by rw [Lib.cell_of_heap N2.out]; rfl
    have c0 : w2.cell? ⟨ix, 0, none⟩ = some (.slice none 0 0) := by rw [Lib.cell_of_heap R2.out]; rfl
    have g0 : w2.frozen? ⟨ix, 0, none⟩ = false := Lib.frozen_of_heap R2.out 0
    go_upto_region 3 with (fail)
    have R3 := Lib.hid (heap_setCell_same (i := 0) R2.out (.slice none 0 0))
    have N3 : Hid (NoScan sc (w2.setCell ⟨ix, 0, none⟩ (.slice none 0 0))) := Lib.hid (by unfold NoScan; rw [heap_setCell_other (by exact hne)]; exact N2.out)
    have K3 : Hid (Kp (fun k => k = ix) w (w2.setCell ⟨ix, 0, none⟩ (.slice none 0 0))) := Lib.hid (K2.out.setCell (p := ⟨ix, 0, none⟩) (.inl rfl) _)
    generalize w2.setCell _ _ = w3 at R3 N3 K3 ⊢
    clear f0 c0 g0
    have HCE := Lib.hid (countEntries_no sc w3 N3.out)
    go_wp2_with fail
    with_reducible refine HCE.out.mono ?_
    rintro e w' ⟨rfl, rfl⟩
    have mk : (Instr.makeSlice 75 (.int .i64 1) (.int .i64 1)).run Tryd.prog w' = .ok (.slice (some ⟨w'.heap.size, 0, none⟩) 1 1) (w'.alloc (.cells (madeCells #[.int .i64 0] 1) 3)) := makeInts 1 (by decide) w'
    have c1 : w'.cell? ⟨ix, 1, none⟩ = some (.slice none 0 0) := by rw [Lib.cell_of_heap R3.out]; rfl
    have g1 : w'.frozen? ⟨ix, 1, none⟩ = false := Lib.frozen_of_heap R3.out 1
    have hixw : ix < w'.heap.size := Lib.lt_of_heap R3.out
    go_upto_region 4 with (fail)
    have R4 : Hid (((w'.setCell ⟨ix, 1, none⟩ (.slice (some ⟨w'.heap.size, 0, none⟩) 1 1)).alloc (.cells (madeCells #[.int .i64 0] 1) 3)).cell? ⟨ix, 0, none⟩ = some (.slice none 0 0)) := Lib.hid (by
      have h1 := heap_setCell_same (i := 1) R3.out (.slice (some ⟨w'.heap.size, 0, none⟩) 1 1)
      have h2 : ((w'.setCell ⟨ix, 1, none⟩ (.slice (some ⟨w'.heap.size, 0, none⟩) 1 1)).alloc (.cells (madeCells #[.int .i64 0] 1) 3)).heap[ix]? = _ := (Below.heap_alloc _ _ _ (by simpa [World.setCell] using hixw)).trans h1
      rw [Lib.cell_of_heap h2]; rfl)
    have K4 : Hid (Kp (fun k => k = ix) w ((w'.setCell ⟨ix, 1, none⟩ (.slice (some ⟨w'.heap.size, 0, none⟩) 1 1)).alloc (.cells (madeCells #[.int .i64 0] 1) 3))) := Lib.hid ((K3.out.setCell (p := ⟨ix, 1, none⟩) (.inl rfl) _).alloc _)
    generalize World.alloc _ _ = w4 at R4 K4 ⊢
    have HCP := Lib.hid (copyEntries_no ix sc w4 R4.out)
    clear mk c1 g1
    go_wp2_with fail
    with_reducible refine HCP.out.mono ?_
    rintro e w'' ⟨rfl, rfl⟩
    go_wp2
    go_returns
    exact ⟨rfl, K4.out, .inl (by omega)⟩
  · have HST := Lib.hid hst
    have lt1 : ix ≠ tb := by omega
    have lt2 : ix ≠ en := by omega
    have lt3 : ix ≠ nx := by omega
    clear hst
    obtain ⟨f0, f1, f2, f3, f4, g4⟩ := HST.out.cells
    go_upto_region 2 with (fail)
    have R2 := Lib.hid (heap_setCell_same (i := 2) HROW.out (.int .i64 ((tn : Int) - 1)))
    have S2 := Lib.hid (HST.out.other (a := ⟨ix, 2, none⟩) (by exact hne) (by exact lt1) (by exact lt2) (by exact lt3) (.int .i64 ((tn : Int) - 1)))
    have K2 : Hid (Kp (fun k => k = ix) w (w1.setCell ⟨ix, 2, none⟩ (.int .i64 ((tn : Int) - 1)))) := Lib.hid ((Kp.of_below HB1.out (fun k => k = ix)).setCell (p := ⟨ix, 2, none⟩) (.inl rfl) _)
    generalize w1.setCell _ _ = w2 at R2 S2 K2 ⊢
    clear c0 c1 c2 g0 g1 g2 f0 f1 f2 f3 f4 g4
    obtain ⟨f0, f1, f2, f3, f4, g4⟩ := S2.out.cells
    have c0 : w2.cell? ⟨ix, 0, none⟩ = some (.slice none 0 0) := by rw [Lib.cell_of_heap R2.out]; rfl
    have g0 : w2.frozen? ⟨ix, 0, none⟩ = false := Lib.frozen_of_heap R2.out 0
    go_upto_region 3 with (fail)
    have R3 := Lib.hid (heap_setCell_same (i := 0) R2.out (.slice (some ⟨tb, 0, none⟩) tn tn))
    have S3 := Lib.hid (S2.out.other (a := ⟨ix, 0, none⟩) (by exact hne) (by exact lt1) (by exact lt2) (by exact lt3) (.slice (some ⟨tb, 0, none⟩) tn tn))
    have K3 : Hid (Kp (fun k => k = ix) w (w2.setCell ⟨ix, 0, none⟩ (.slice (some ⟨tb, 0, none⟩) tn tn))) := Lib.hid (K2.out.setCell (p := ⟨ix, 0, none⟩) (.inl rfl) _)
    generalize w2.setCell _ _ = w3 at R3 S3 K3 ⊢
    clear c0 g0 f0 f1 f2 f3 f4 g4 S2 R2 K2
    have HCE := Lib.hid (countEntries_any sc tb en nx tn m cnt S.length T E N w3 S3.out t2 hm63)
    have hcm := S3.out.cm
    have hss := ssum_le N T 62 tn (fun q hq => Nat.le_trans (S3.out.tv q hq) (by omega))
    have hss2 : tn * 62 ≤ 64 * 62 := Nat.mul_le_mul_right _ t2
    go_wp2_with fail
    with_reducible refine HCE.out.mono ?_
    rintro e w' ⟨rfl, rfl⟩
    obtain ⟨s, hs⟩ : ∃ s, s = ssum N T tn := ⟨_, rfl⟩
    rw [← hs] at hss ⊢
    have HSS := Lib.hid hs
    clear hs HCE
    have mk : (Instr.makeSlice 75 (.int .i64 ((s : Int) + 1)) (.int .i64 ((s : Int) + 1))).run Tryd.prog w' = .ok (.slice (some ⟨w'.heap.size, 0, none⟩) (s + 1) (s + 1)) (w'.alloc (.cells (madeCells #[.int .i64 0] (s + 1)) 3)) := makeInts2 (s + 1) (by omega) w'
    have c1 : w'.cell? ⟨ix, 1, none⟩ = some (.slice none 0 0) := by rw [Lib.cell_of_heap R3.out]; rfl
    have g1 : w'.frozen? ⟨ix, 1, none⟩ = false := Lib.frozen_of_heap R3.out 1
    have hixw : ix < w'.heap.size := Lib.lt_of_heap R3.out
    go_upto_region 4 with (fail)
    have hsz : (w'.setCell ⟨ix, 1, none⟩ (.slice (some ⟨w'.heap.size, 0, none⟩) (s + 1) (s + 1))).heap.size = w'.heap.size := by simp [World.setCell]
    have hX : Hid (∀ k, k < w'.heap.size → k ≠ ix → ((w'.setCell ⟨ix, 1, none⟩ (.slice (some ⟨w'.heap.size, 0, none⟩) (s + 1) (s + 1))).alloc (.cells (madeCells #[.int .i64 0] (s + 1)) 3)).heap[k]? = w'.heap[k]?) := Lib.hid (fun k hk hne => by
      rw [Below.heap_alloc _ _ _ (by rw [hsz]; exact hk), heap_setCell_other (by exact fun e => hne e.symm)])
    have R4 : Hid (((w'.setCell ⟨ix, 1, none⟩ (.slice (some ⟨w'.heap.size, 0, none⟩) (s + 1) (s + 1))).alloc (.cells (madeCells #[.int .i64 0] (s + 1)) 3)).heap[ix]? = some (.cells #[.slice (some ⟨tb, 0, none⟩) tn tn, .slice (some ⟨w'.heap.size, 0, none⟩) (s + 1) (s + 1), .int .i64 ((tn : Int) - 1)] ixT (0, 0))) := Lib.hid (by
      rw [Below.heap_alloc _ _ _ (by rw [hsz]; exact hixw)]
      exact heap_setCell_same (i := 1) R3.out (.slice (some ⟨w'.heap.size, 0, none⟩) (s + 1) (s + 1)))
    have E4 : Hid (IR ((w'.setCell ⟨ix, 1, none⟩ (.slice (some ⟨w'.heap.size, 0, none⟩) (s + 1) (s + 1))).alloc (.cells (madeCells #[.int .i64 0] (s + 1)) 3)) w'.heap.size (s + 1) (fun _ => 0)) := Lib.hid (by
      refine IR.of_made ?_
      have := heap_new (w'.setCell ⟨ix, 1, none⟩ (.slice (some ⟨w'.heap.size, 0, none⟩) (s + 1) (s + 1))) (.cells (madeCells #[.int .i64 0] (s + 1)) 3)
      rwa [hsz] at this)
    have K4 : Hid (Kp (fun k => k = ix) w ((w'.setCell ⟨ix, 1, none⟩ (.slice (some ⟨w'.heap.size, 0, none⟩) (s + 1) (s + 1))).alloc (.cells (madeCells #[.int .i64 0] (s + 1)) 3))) := Lib.hid ((K3.out.setCell (p := ⟨ix, 1, none⟩) (.inl rfl) _).alloc _)
    have hz3 := K3.out.size
    generalize World.alloc _ _ = w4 at hX R4 E4 K4 ⊢
    have hst := S3.out
    have t4 : IR w4 tb tn T := hst.t.of_block (hX.out tb hst.t.lt (by omega))
    have S4 : Hid (ScSt w4 sc tb en nx tn m cnt T E N S.length) := Lib.hid ⟨(hX.out sc hst.lt (by omega)).trans hst.row, t4, hst.e.of_block (hX.out en hst.e.lt (by omega)), hst.n.of_block (hX.out nx hst.n.lt (by omega)), hst.st, hst.se, hst.sn, hst.te, hst.tx, hst.ex, hst.cm, hst.tv, hst.nv, hst.ev⟩
    have d1 : w'.heap.size ≠ sc := by have := hst.lt; omega
    have d2 : w'.heap.size ≠ en := by have := hst.e.lt; omega
    have d3 : w'.heap.size ≠ nx := by have := hst.n.lt; omega
    have d4 : tb ≠ w'.heap.size := by have := hst.t.lt; omega
    have I4 : Hid (IxSt w4 ix tb w'.heap.size tn (s + 1) (s + 1 + cnt + 1) T (fun _ => 0) S.length) := Lib.hid ⟨R4.out, t4, E4.out, lt1, by omega, d4, fun i hi => by have := hst.tv i hi; omega, fun i hi => Nat.zero_le _⟩
    have HCP := Lib.hid (copyEntries_any w.heap.size sc tb en nx tn m cnt ix w'.heap.size (s + 1) S.length T E N (fun _ => 0) w4 S4.out I4.out (by rw [HSS.out]) ⟨l1, hz3⟩ d1 d2 d3 t2 hm63)
    clear mk c1 g1 t4 hst
    go_wp2_with fail
    with_reducible refine HCP.out.mono ?_
    rintro e w5 ⟨rfl, ⟨T5, E5, hix5⟩, hb5⟩
    have HIX5 := Lib.hid hix5
    have K5 : Hid (Kp (fun k => k = ix) w w5) := Lib.hid (K4.out.trans (Y := fun k => w.heap.size ≤ k) ⟨hb5.os, hb5.tape, hb5.output, hb5.size, fun k _ hk2 => hb5.block k (by omega)⟩ (fun i hi hy => by omega))
    clear hix5 hb5
    go_wp2
    go_returns
    exact ⟨rfl, K5.out, .inr ⟨tb, w'.heap.size, tn, s + 1, T5, E5, HIX5.out, l1, hz3, t1, t2, by omega⟩⟩
end Go.Proofs.YtgibmkgibkhemaaDoor
