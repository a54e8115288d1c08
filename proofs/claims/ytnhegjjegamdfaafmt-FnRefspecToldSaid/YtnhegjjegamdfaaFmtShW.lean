/- crypto/sha1: New, Reset, Write of a few bytes. -/
import Derived.Test.YtnhegjjegamdfaaFmtShA
import Derived.Laws.CopyOwn
import Derived.Lib.OthersKept
import Derived.IntWalk
import Derived.StillTailTactics
namespace Go.Proofs.YtnhegjjegamdfaaFmt
open Go.RowKit
set_option linter.unusedSimpArgs false
set_option linter.unusedVariables false

theorem u8Size : (Tryf.prog.info? 5).map (·.size) = some 1 := by kernel_rfl
theorem row_set2 {w : World} {g i : Nat} {L : List Value} {T : TypeId} {m : Nat × Nat} (h : w.heap[g]? = some (.cells L.toArray T m)) (v : Value) : (w.setCell ⟨g, i, none⟩ v).heap[g]? = some (.cells (L.set i v).toArray T m) := by
  simp [World.setCell, Array.getElem?_modify, h]
theorem row_cell2 {w : World} {g i : Nat} {L : List Value} {T : TypeId} {m : Nat × Nat} {v : Value} (h : w.heap[g]? = some (.cells L.toArray T m)) (hi : L[i]? = some v) : w.cell? ⟨g, i, none⟩ = some v := by
  rw [Lib.cell_of_heap h]; simpa using hi
theorem row_ex {w : World} {g i : Nat} {L : List Value} {T : TypeId} {m : Nat × Nat} (h : w.heap[g]? = some (.cells L.toArray T m)) (hi : i < L.length) : ∃ v, w.cell? ⟨g, i, none⟩ = some v :=
  ⟨L[i], by rw [Lib.cell_of_heap h]; simp [hi]⟩
theorem grownBy_set2 {w w' : World} {b : Nat} (h : w.grownBy w' (some b)) (i : Nat) (v : Value) : w.grownBy (w'.setCell ⟨b, i, none⟩ v) (some b) :=
  ⟨h.os, h.tape, h.output, by simpa [World.setCell] using h.size, fun k hk hne => (Below.heap_setCell _ _ _ _ (by intro e; exact hne (by rw [e]))).trans (h.block k hk hne)⟩
theorem setRow_row {w : World} {g : Nat} {C : Array Value} {T : TypeId} {m : Nat × Nat} (h : w.heap[g]? = some (.cells C T m)) (C' : Array Value) : (w.setRow g C').heap[g]? = some (.cells C' T m) := by
  simp [World.setRow, Array.getElem?_modify, h]
theorem grownBy_setRow {w w' : World} {b : Nat} (h : w.grownBy w' (some b)) (C : Array Value) : w.grownBy (w'.setRow b C) (some b) :=
  ⟨h.os, h.tape, h.output, by simpa [World.setRow] using h.size, fun k hk hne => by
    have hk2 : ¬ b = k := fun e => hne (by rw [e])
    refine Eq.trans ?_ (h.block k hk hne)
    simp [World.setRow, Array.getElem?_modify, hk2]⟩
theorem grownBy_refl (w : World) (b : Nat) : w.grownBy w (some b) := ⟨rfl, rfl, rfl, Nat.le_refl _, fun _ _ _ => rfl⟩
theorem grownBy_cell {w w' : World} {b : Nat} (h : w.grownBy w' (some b)) {p : Addr} (hp : p.block < w.heap.size) (hb : p.block ≠ b) : w'.cell? p = w.cell? p := World.cell?_of_block (h.block _ hp (fun e => hb (Option.some.inj e)))
theorem add_at (b o j : Nat) : (⟨b, o, none⟩ : Addr).add j = ⟨b, o + j, none⟩ := by unfold Addr.add; split <;> simp_all
/-- A digest: its cells. -/
structure Dig (w : World) (d : Nat) (T : TypeId) (L : List Value) (nx len : Nat) : Prop where
  row : w.heap[d]? = some (.cells L.toArray T (0, 0))
  size : L.length = 71
  nx : L[69]? = some (.int .i64 (nx : Nat))
  len : L[70]? = some (.int .u64 (len : Nat))
def bv (f : Nat → Nat) (n : Nat) : List Value := (List.range n).map fun i => .int .u8 (f i : Nat)
theorem bv_length (f : Nat → Nat) (n : Nat) : (bv f n).length = n := by simp [bv]
theorem bv_at (f : Nat → Nat) (n i : Nat) (v : Value) (h : (bv f n)[i]? = some v) : i < n ∧ v = .int .u8 (f i : Nat) := by
  unfold bv at h
  rw [List.getElem?_map] at h
  by_cases hi : i < n
  · rw [List.getElem?_range hi] at h
    exact ⟨hi, by simpa using h.symm⟩
  · rw [List.getElem?_eq_none (by simp; omega)] at h
    cases h
theorem bv_one (f : Nat → Nat) (n : Nat) : ∀ v ∈ bv f n, v.oneCell' = true := fun v hv => by
  unfold bv at hv
  obtain ⟨i, _, rfl⟩ := List.mem_map.mp hv
  rfl
theorem splice_out {α : Type} (L : List α) (off : Nat) (cs : List α) (i : Nat) (h : off + cs.length ≤ i) (hl : off ≤ L.length) : (splice L off cs)[i]? = L[i]? := by
  unfold splice
  rw [List.getElem?_append_right (by rw [List.length_take]; omega), List.length_take, Nat.min_eq_left hl, List.getElem?_append_right (by omega), List.getElem?_drop]
  congr 1; omega
/-- What a few bytes make of a digest. -/
def dWrite (L : List Value) (nx len n : Nat) (f : Nat → Nat) : List Value := (splice (L.set 70 (.int .u64 ((len + n : Nat) : Int))) (5 + nx) (bv f n)).set 69 (.int .i64 ((nx + n : Nat) : Int))
def WritePost (d : Nat) (T : TypeId) (L : List Value) (nx len n : Nat) (f : Nat → Nat) (w : World) (e : Ending) (w' : World) : Prop :=
  e = .returned (.tuple #[.int .i64 n, .nilIface]) ∧ w'.heap[d]? = some (.cells (dWrite L nx len n f).toArray T (0, 0)) ∧ w.grownBy w' (some d)

set_option maxRecDepth 100000 in
set_option maxHeartbeats 2000000 in
theorem write_first (d sb so c : Nat) (T : TypeId) (L : List Value) (len n : Nat) (f : Nat → Nat) (w : World) (h : Dig w d T L 0 len) (hn0 : 1 ≤ n) (hn : n < 64) (hlen : len < 1000) (hc : n ≤ c) (hcm : c ≤ 9223372036854775807) (hsd : sb ≠ d)
    (hs : ∀ i, i < n → w.cell? ⟨sb, so + i, none⟩ = some (.int .u8 (f i : Nat))) :
    Calls Tryf.prog 43 #[.pointer (some ⟨d, 0, none⟩), .slice (some ⟨sb, so, none⟩) n c] w (WritePost d T L 0 len n f w) := by
  have c70 := row_cell2 h.row h.len
  have c69 : (w.setCell ⟨d, 70, none⟩ (.int .u64 ((len : Int) + n))).cell? ⟨d, 69, none⟩ = some (.int .i64 0) := row_cell2 (row_set2 h.row _) (by rw [List.getElem?_set_ne (by decide)]; exact h.nx)
  have f70 := Lib.frozen_of_heap h.row 70
  have HD := Lib.hid h; have HSR := Lib.hid hs
  clear h hs
  go_enter Tryf.func43, Tryf.ntmps43
  go_upto_region 15 with (fail)
  clear c70 c69 f70
  have HG1 : Hid (w.grownBy (w.setCell ⟨d, 70, none⟩ (.int .u64 ((len : Int) + n))) (some d)) := Lib.hid (grownBy_set2 (grownBy_refl w d) _ _)
  have HL1 : Hid ((w.setCell ⟨d, 70, none⟩ (.int .u64 ((len : Int) + n))).heap[d]? = some (.cells (L.set 70 (.int .u64 ((len + n : Nat) : Int))).toArray T (0, 0))) := Lib.hid (row_set2 HD.out.row _)
  generalize w.setCell ⟨d, 70, none⟩ (.int .u64 ((len : Int) + n)) = W1 at HG1 HL1 ⊢
  have hls : (L.set 70 (.int .u64 ((len + n : Nat) : Int))).length = 71 := by rw [List.length_set]; exact HD.out.size
  have HLS := Lib.hid hls; clear hls
  have hmin : (bv f n).length = Nat.min n 64 := by rw [bv_length]; exact (Nat.min_eq_left (by omega)).symm
  have HM := Lib.hid hmin; clear hmin
  have hsrc : ∀ j v, (bv f n)[j]? = some v → W1.cell? ((⟨sb, so, none⟩ : Addr).add j) = some v := fun j v hj => by
    obtain ⟨h1, rfl⟩ := bv_at f n j v hj
    have hsb : sb < w.heap.size := block_lt_of_cell (HSR.out j h1)
    rw [add_at, grownBy_cell HG1.out hsb hsd]
    exact HSR.out j h1
  have HSRC := Lib.hid hsrc; clear hsrc
  have hfit : 5 + (bv f n).length ≤ (L.set 70 (.int .u64 ((len + n : Nat) : Int))).toArray.size := by have := HLS.out; rw [bv_length]; simp only [List.size_toArray]; omega
  have HFIT := Lib.hid hfit; clear hfit
  have hsp : (splice (L.set 70 (.int .u64 ((len + n : Nat) : Int))) 5 (bv f n)).length = 71 := (length_splice _ _ _ (by have := HFIT.out; simpa using this)).trans HLS.out
  have HSP := Lib.hid hsp; clear hsp
  go_wp2_with (refine wpList_copy_own rfl (.tmp 80) (.tmp 81) 51 51 rfl 5 bytesKind u8Size d 5 64 64 ⟨sb, so, none⟩ n c rfl rfl _ T HL1.out (bv f n) HM.out HSRC.out HFIT.out (bv_one f n) ?_; generalize hW2 : W1.setRow d _ = W2; have HL2 : Hid (W2.heap[d]? = some (.cells (splice (L.set 70 (.int .u64 ((len + n : Nat) : Int))) 5 (bv f n)).toArray T (0, 0))) := Lib.hid (by subst hW2; exact setRow_row HL1.out _); have HG2 : Hid (w.grownBy W2 (some d)) := Lib.hid (by subst hW2; exact grownBy_setRow HG1.out _); clear hW2; obtain ⟨v69, c69⟩ := row_ex (i := 69) HL2.out (by rw [HSP.out]; decide); have f69 := Lib.frozen_of_heap HL2.out 69; rw [bv_length])
  have HL3 := Lib.hid (row_set2 (i := 69) HL2.out (.int .i64 n))
  have HG3 := Lib.hid (grownBy_set2 HG2.out 69 (.int .i64 n))
  go_ret2
  refine ⟨rfl, ?_, HG3.out⟩
  unfold dWrite
  rw [Nat.zero_add]
  exact HL3.out

set_option maxRecDepth 100000 in
set_option maxHeartbeats 2000000 in
theorem write_more (d sb so c : Nat) (T : TypeId) (L : List Value) (nx len n : Nat) (f : Nat → Nat) (w : World) (h : Dig w d T L nx len) (hnx : 1 ≤ nx) (hn0 : 1 ≤ n) (hn : nx + n < 64) (hlen : len < 1000) (hc : n ≤ c) (hcm : c ≤ 9223372036854775807) (hsd : sb ≠ d)
    (hs : ∀ i, i < n → w.cell? ⟨sb, so + i, none⟩ = some (.int .u8 (f i : Nat))) :
    Calls Tryf.prog 43 #[.pointer (some ⟨d, 0, none⟩), .slice (some ⟨sb, so, none⟩) n c] w (WritePost d T L nx len n f w) := by
  have c70 := row_cell2 h.row h.len
  have c69 : (w.setCell ⟨d, 70, none⟩ (.int .u64 ((len : Int) + n))).cell? ⟨d, 69, none⟩ = some (.int .i64 (nx : Nat)) := row_cell2 (row_set2 h.row _) (by rw [List.getElem?_set_ne (by decide)]; exact h.nx)
  have f70 := Lib.frozen_of_heap h.row 70
  have hnx0 : (0 : Int) < (nx : Int) := by omega
  have HD := Lib.hid h; have HSR := Lib.hid hs
  clear h hs
  go_enter Tryf.func43, Tryf.ntmps43
  go_upto_region 4 with (fail)
  clear c70 c69 f70
  have HG1 : Hid (w.grownBy (w.setCell ⟨d, 70, none⟩ (.int .u64 ((len : Int) + n))) (some d)) := Lib.hid (grownBy_set2 (grownBy_refl w d) _ _)
  have HL1 : Hid ((w.setCell ⟨d, 70, none⟩ (.int .u64 ((len : Int) + n))).heap[d]? = some (.cells (L.set 70 (.int .u64 ((len + n : Nat) : Int))).toArray T (0, 0))) := Lib.hid (row_set2 HD.out.row _)
  generalize w.setCell ⟨d, 70, none⟩ (.int .u64 ((len : Int) + n)) = W0 at HG1 HL1 ⊢
  have hls : (L.set 70 (.int .u64 ((len + n : Nat) : Int))).length = 71 := by rw [List.length_set]; exact HD.out.size
  have HLS := Lib.hid hls; clear hls
  have c69 : W0.cell? ⟨d, 69, none⟩ = some (.int .i64 (nx : Nat)) := row_cell2 HL1.out (by rw [List.getElem?_set_ne (by decide)]; exact HD.out.nx)
  have b0 : (0 : Int) ≤ (nx : Int) := by omega
  have b1 : (nx : Int) ≤ 64 := by omega
  have hne : ¬ 64 = nx := by omega
  go_still_tail 9, (by kernel_rfl)
  change wpList _ _ _ _ _ W0.drew
  clear c69 b0 b1 hne
  have HG2 : Hid (w.grownBy W0.drew (some d)) := Lib.hid ⟨HG1.out.os, HG1.out.tape, HG1.out.output, HG1.out.size, HG1.out.block⟩
  have HL2 : Hid (W0.drew.heap[d]? = some (.cells (L.set 70 (.int .u64 ((len + n : Nat) : Int))).toArray T (0, 0))) := Lib.hid HL1.out
  generalize W0.drew = W1 at HG2 HL2 ⊢
  have hmin : (bv f n).length = Nat.min n (64 - nx) := by rw [bv_length]; exact (Nat.min_eq_left (by omega)).symm
  have hsrc : ∀ j v, (bv f n)[j]? = some v → W1.cell? ((⟨sb, so, none⟩ : Addr).add j) = some v := fun j v hj => by
    obtain ⟨h1, rfl⟩ := bv_at f n j v hj
    have hsb : sb < w.heap.size := block_lt_of_cell (HSR.out j h1)
    rw [add_at, grownBy_cell HG2.out hsb hsd]
    exact HSR.out j h1
  have hfit : 5 + nx + (bv f n).length ≤ (L.set 70 (.int .u64 ((len + n : Nat) : Int))).toArray.size := by have := HLS.out; rw [bv_length]; simp only [List.size_toArray]; omega
  refine wpList_copy_own rfl (.tmp 31) (.tmp 32) 51 51 rfl 5 bytesKind u8Size d (5 + nx) (64 - nx) (64 - nx) ⟨sb, so, none⟩ n c rfl rfl _ T HL2.out (bv f n) hmin hsrc hfit (bv_one f n) ?_
  have hsp : (splice (L.set 70 (.int .u64 ((len + n : Nat) : Int))) (5 + nx) (bv f n)).length = 71 := (length_splice _ _ _ (by simpa using hfit)).trans HLS.out
  have HSP := Lib.hid hsp
  generalize hW2 : W1.setRow d _ = W2
  have HL3 : Hid (W2.heap[d]? = some (.cells (splice (L.set 70 (.int .u64 ((len + n : Nat) : Int))) (5 + nx) (bv f n)).toArray T (0, 0))) := Lib.hid (by subst hW2; exact setRow_row HL2.out _)
  have HG3 : Hid (w.grownBy W2 (some d)) := Lib.hid (by subst hW2; exact grownBy_setRow HG2.out _)
  have c69 : W2.cell? ⟨d, 69, none⟩ = some (.int .i64 (nx : Nat)) := row_cell2 HL3.out (by
    have h5 : 5 + nx + (bv f n).length ≤ 69 := by rw [bv_length]; omega
    rw [splice_out _ _ _ _ h5 (by rw [HLS.out]; omega), List.getElem?_set_ne (by decide)]; exact HD.out.nx)
  have f69 := Lib.frozen_of_heap HL3.out 69
  clear hW2 hsp hfit hsrc hmin
  rw [bv_length]
  have HL4 := Lib.hid (row_set2 (i := 69) HL3.out (.int .i64 ((nx + n : Nat) : Int)))
  have HG4 := Lib.hid (grownBy_set2 HG3.out 69 (.int .i64 ((nx + n : Nat) : Int)))
  have c69b : (W2.setCell ⟨d, 69, none⟩ (.int .i64 ((nx : Int) + n))).cell? ⟨d, 69, none⟩ = some (.int .i64 ((nx : Int) + n)) := row_cell2 HL4.out (by rw [List.getElem?_set_self (by rw [HSP.out]; decide)]; rfl)
  have b3 : ((nx : Int) + n == 64) = false := beq_eq_false_iff_ne.mpr (by omega)
  go_wp2
  all_goals
    go_ret2
    exact ⟨rfl, HL4.out, HG4.out⟩
end Go.Proofs.YtnhegjjegamdfaaFmt
