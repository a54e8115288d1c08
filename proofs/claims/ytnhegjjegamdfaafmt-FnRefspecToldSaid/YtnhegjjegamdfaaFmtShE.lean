/- crypto/sha1.checkSum of the one digest. -/
import Derived.Test.YtnhegjjegamdfaaFmtShC
import Derived.Test.YtnhegjjegamdfaaFmtShD
namespace Go.Proofs.YtnhegjjegamdfaaFmt
open Go.RowKit
set_option linter.unusedSimpArgs false
set_option linter.unusedVariables false

def numL (l : List Nat) : Nat → Nat := fun i => l.getD i 0
def hL5 : List Value := [(.int .u32 1732584193), (.int .u32 4023233417), (.int .u32 2562383102), (.int .u32 271733878), (.int .u32 3285377520)]
def zerosU8 (n : Nat) : List Value := List.replicate n (.int .u8 0)
/-- The digest behind a text, which begins the block. -/
def dOf (l : List Nat) : List Value := hL5 ++ (bv (numL l) l.length ++ zerosU8 (64 - l.length)) ++ [.int .i64 (l.length : Nat), .int .u64 (l.length : Nat)]
def msgN : List Nat := [98, 108, 111, 98, 32, 54, 0, 104, 101, 108, 108, 111, 10]
def padN : List Nat := [128] ++ List.replicate 49 0 ++ [104]

theorem pad_full5 : ∀ i, i < 5 → (dFull (dOf msgN) 13 13 51 (numL padN))[i]? = some (.int .u32 (h0k i)) := by
  intro i hi
  rcases (by omega : i = 0 ∨ i = 1 ∨ i = 2 ∨ i = 3 ∨ i = 4) with rfl | rfl | rfl | rfl | rfl <;> kernel_rfl
theorem pad_full64 : ∀ i, i < 64 → (dFull (dOf msgN) 13 13 51 (numL padN))[5 + i]? = some (.int .u8 (bk i)) := by
  have h : (List.range 64).map (fun i => (dFull (dOf msgN) 13 13 51 (numL padN))[5 + i]?) = (List.range 64).map (fun i => some (Value.int .u8 (bk i))) := by kernel_rfl
  intro i hi
  have h2 := congrArg (fun l => l[i]?) h
  simp only [List.getElem?_map] at h2
  rw [List.getElem?_range hi] at h2
  simpa using h2
def sumN : List Nat := [206, 1, 54, 37, 3, 11, 168, 219, 169, 6, 247, 86, 150, 127, 158, 156, 163, 148, 70, 74]
def dSum : List Value := (hash5 (dFull (dOf msgN) 13 13 51 (numL padN))).set 69 (.int .i64 0)
def tmp1 : List Value := (zerosU8 72).set 0 (.int .u8 128)
theorem dSum_at (i : Nat) (hi : i < 5) : dSum[i]? = some (.int .u32 (outk i)) := by
  rcases (by omega : i = 0 ∨ i = 1 ∨ i = 2 ∨ i = 3 ∨ i = 4) with rfl | rfl | rfl | rfl | rfl <;> kernel_rfl
theorem pad_at : ∀ i, i < 51 → (put8 tmp1 43)[i]? = some (.int .u8 (numL padN i : Nat)) := by
  have h : (List.range 51).map (fun i => (put8 tmp1 43)[i]?) = (List.range 51).map (fun i => some (Value.int .u8 (numL padN i : Nat))) := by kernel_rfl
  intro i hi
  have h2 := congrArg (fun l => l[i]?) h
  simp only [List.getElem?_map] at h2
  rw [List.getElem?_range hi] at h2
  simpa using h2
def sum5 : List Value := put4 (put4 (put4 (put4 (put4 (zerosU8 20) 0 (outk 0)) 4 (outk 1)) 8 (outk 2)) 12 (outk 3)) 16 (outk 4)
theorem sum5_eq : sum5 = bv (numL sumN) 20 := by kernel_rfl
theorem grownBy_to {w w1 w2 : World} {b c : Nat} (h : w.grownBy w1 (some b)) (h2 : w1.grownBy w2 (some c)) (hc : w.heap.size ≤ c) : w.grownBy w2 (some b) :=
  ⟨h2.os.trans h.os, h2.tape.trans h.tape, h2.output.trans h.output, Nat.le_trans h.size h2.size, fun k hk hne => (h2.block k (Nat.lt_of_lt_of_le hk h.size) (fun e => by have := Option.some.inj e; omega)).trans (h.block k hk hne)⟩
theorem grownBy_trans {w w1 w2 : World} {b : Nat} (h : w.grownBy w1 (some b)) (h2 : w1.grownBy w2 (some b)) : w.grownBy w2 (some b) :=
  ⟨h2.os.trans h.os, h2.tape.trans h.tape, h2.output.trans h.output, Nat.le_trans h.size h2.size, fun k hk hne => (h2.block k (Nat.lt_of_lt_of_le hk h.size) hne).trans (h.block k hk hne)⟩
theorem grownBy_alloc {w w1 : World} {b : Nat} (h : w.grownBy w1 (some b)) (o : Obj) : w.grownBy (w1.alloc o) (some b) :=
  ⟨h.os, h.tape, h.output, by rw [heap_new_size]; have := h.size; omega, fun k hk hne => by
    refine Eq.trans ?_ (h.block k hk hne)
    have := h.size
    exact Below.heap_alloc _ _ _ (by omega)⟩
theorem grownBy_drew {w w1 : World} {b : Nat} (h : w.grownBy w1 (some b)) : w.grownBy w1.drew (some b) := ⟨h.os, h.tape, h.output, h.size, h.block⟩
theorem row_alloc {w : World} {g : Nat} {x : Obj} (h : w.heap[g]? = some x) (o : Obj) : (w.alloc o).heap[g]? = some x := by
  have hg : g < w.heap.size := (Array.getElem?_eq_some_iff.1 h).1
  exact (Below.heap_alloc _ _ _ hg).trans h

theorem arr20Kind : Tryf.prog.underlying 56 = some (.array 20 5) := by kernel_rfl
theorem arr20Size : (Tryf.prog.info? 56).map (·.size) = some (bv (numL sumN) 20).toArray.size := by kernel_rfl
theorem arr20Old : (zerosU8 20).toArray.size = (bv (numL sumN) 20).toArray.size := by kernel_rfl
theorem arr20One : (bv (numL sumN) 20).toArray.all (·.oneCell') = true := by kernel_rfl
def SumPost (d : Nat) (w : World) (e : Ending) (w' : World) : Prop := e = .returned (.agg (bv (numL sumN) 20).toArray) ∧ w.grownBy w' (some d)
set_option maxRecDepth 100000 in
set_option maxHeartbeats 4000000 in
theorem checkSum_any (d : Nat) (T : TypeId) (w : World) (hL : w.heap[d]? = some (.cells (dOf msgN).toArray T (0, 0))) :
    Calls Tryf.prog 61 #[.pointer (some ⟨d, 0, none⟩)] w (SumPost d w) := by
  have HL := Lib.hid hL
  have hd : d < w.heap.size := (Array.getElem?_eq_some_iff.1 hL).1
  clear hL
  go_enter Tryf.func61, Tryf.ntmps61
  go_upto_region 1 with (fail)
  generalize hW : w.alloc _ = W1
  have HG1 : Hid (w.grownBy W1 (some d)) := Lib.hid (by subst hW; exact grownBy_alloc (grownBy_refl w d) _)
  have HL1 : Hid (W1.heap[d]? = some (.cells (dOf msgN).toArray T (0, 0))) := Lib.hid (by subst hW; exact row_alloc HL.out _)
  have HR1 : Hid (W1.heap[w.heap.size]? = some (.cells (zerosU8 20).toArray 56 (0, 0))) := Lib.hid (by subst hW; exact heap_new _ _)
  have HSZ1 : W1.heap.size = w.heap.size + 1 := by subst hW; exact heap_new_size _ _
  clear hW
  have c70 : W1.cell? ⟨d, 70, none⟩ = some (.int .u64 13) := row_cell2 HL1.out (by kernel_rfl)
  have hs1 : Hid (W1.heap.size = w.heap.size + 1) := Lib.hid HSZ1
  go_upto_region 3 with (fail)
  clear c70
  generalize hW : W1.alloc _ = W2
  have HG2 : Hid (w.grownBy W2 (some d)) := Lib.hid (by subst hW; exact grownBy_alloc HG1.out _)
  have HL2 : Hid (W2.heap[d]? = some (.cells (dOf msgN).toArray T (0, 0))) := Lib.hid (by subst hW; exact row_alloc HL1.out _)
  have HR2 : Hid (W2.heap[w.heap.size]? = some (.cells (zerosU8 20).toArray 56 (0, 0))) := Lib.hid (by subst hW; exact row_alloc HR1.out _)
  have HT2 : Hid (W2.heap[w.heap.size + 1]? = some (.cells (zerosU8 72).toArray 96 (0, 0))) := Lib.hid (by subst hW; rw [← hs1.out]; exact heap_new _ _)
  have HZ2 : Hid (W2.heap.size = w.heap.size + 2) := Lib.hid (by subst hW; rw [heap_new_size, hs1.out])
  clear hW HSZ1
  have c0 : W2.cell? ⟨w.heap.size + 1, 0, none⟩ = some (.int .u8 0) := row_cell2 HT2.out (by kernel_rfl)
  have f0 := Lib.frozen_of_heap HT2.out 0
  go_upto_region 10 with (fail)
  clear c0 f0
  have HT3 : Hid ((W2.setCell ⟨w.heap.size + 1, 0, none⟩ (.int .u8 128)).heap[w.heap.size + 1]? = some (.cells tmp1.toArray 96 (0, 0))) := Lib.hid (row_set2 HT2.out _)
  have HB3 : Hid (W2.grownBy (W2.setCell ⟨w.heap.size + 1, 0, none⟩ (.int .u8 128)) (some (w.heap.size + 1))) := Lib.hid (grownBy_set2 (grownBy_refl _ _) _ _)
  have HZ3 : Hid ((W2.setCell ⟨w.heap.size + 1, 0, none⟩ (.int .u8 128)).heap.size = w.heap.size + 2) := Lib.hid (by rw [World.size_setCell]; exact HZ2.out)
  generalize W2.setCell ⟨w.heap.size + 1, 0, none⟩ (.int .u8 128) = W3 at HT3 HB3 HZ3 ⊢
  have HG3 : Hid (w.grownBy W3 (some d)) := Lib.hid (grownBy_to HG2.out HB3.out (by omega))
  have HL3 : Hid (W3.heap[d]? = some (.cells (dOf msgN).toArray T (0, 0))) := Lib.hid ((HB3.out.block d (by rw [HZ2.out]; omega) (fun e => by have := Option.some.inj e; omega)).trans HL2.out)
  have HR3 : Hid (W3.heap[w.heap.size]? = some (.cells (zerosU8 20).toArray 56 (0, 0))) := Lib.hid ((HB3.out.block w.heap.size (by rw [HZ2.out]; omega) (fun e => by have := Option.some.inj e; omega)).trans HR2.out)
  clear HT2 HB3 HZ2 HG2 HL2 HR2
  go_wp2_with fail
  with_reducible refine (put64_any (w.heap.size + 1) 43 8 29 96 tmp1 W3 HT3.out (by decide) (by decide) (by decide)).mono ?_
  rintro e W4 ⟨rfl, h1, h2⟩
  have HT4 := Lib.hid h1
  have HZ4 : Hid (W4.heap.size ≥ w.heap.size + 2) := Lib.hid (by have := h2.size; rw [HZ3.out] at this; exact this)
  have HG4 : Hid (w.grownBy W4 (some d)) := Lib.hid (grownBy_to HG3.out h2 (by omega))
  have HL4 : Hid (W4.heap[d]? = some (.cells (dOf msgN).toArray T (0, 0))) := Lib.hid ((h2.block d (by rw [HZ3.out]; omega) (fun e => by have := Option.some.inj e; omega)).trans HL3.out)
  have HR4 : Hid (W4.heap[w.heap.size]? = some (.cells (zerosU8 20).toArray 56 (0, 0))) := Lib.hid ((h2.block w.heap.size (by rw [HZ3.out]; omega) (fun e => by have := Option.some.inj e; omega)).trans HR3.out)
  clear h1 h2 HT3 HZ3 HG3 HL3 HR3
  have HDG : Hid (Dig W4 d T (dOf msgN) 13 13) := Lib.hid ⟨HL4.out, by kernel_rfl, by kernel_rfl, by kernel_rfl⟩
  go_wp2_with fail
  with_reducible refine (write_fill d (w.heap.size + 1) 0 72 T (dOf msgN) 13 13 51 (numL padN) W4 HDG.out (by decide) (by decide) (by decide) (by decide) (by decide) (by decide) (by omega) (fun i hi => by rw [Nat.zero_add]; exact row_cell2 HT4.out (pad_at i hi)) pad_full5 pad_full64).mono ?_
  rintro e W5 ⟨rfl, h1, h2⟩
  have HL5 : Hid (W5.heap[d]? = some (.cells dSum.toArray T (0, 0))) := Lib.hid h1
  have HZ5 : Hid (W5.heap.size ≥ w.heap.size + 2) := Lib.hid (Nat.le_trans HZ4.out h2.size)
  have HG5 : Hid (w.grownBy W5 (some d)) := Lib.hid (grownBy_trans HG4.out h2)
  have HR5 : Hid (W5.heap[w.heap.size]? = some (.cells (zerosU8 20).toArray 56 (0, 0))) := Lib.hid ((h2.block w.heap.size (by have := HZ4.out; omega) (fun e => by have := Option.some.inj e; omega)).trans HR4.out)
  clear h1 h2 HDG HT4 HZ4 HG4 HL4 HR4
  have c69 : W5.cell? ⟨d, 69, none⟩ = some (.int .i64 0) := row_cell2 HL5.out (by kernel_rfl)
  go_upto_region 15 with (fail)
  clear c69
  generalize hW : W5.alloc _ = Wa0
  have HS0 : Hid (Wa0.heap[W5.heap.size]? = some (.cells (zerosU8 20).toArray 56 (0, 0))) := Lib.hid (by subst hW; exact heap_new _ _)
  have HG0 : Hid (w.grownBy Wa0 (some d)) := Lib.hid (by subst hW; exact grownBy_alloc HG5.out _)
  have HD0 : Hid (Wa0.heap[d]? = some (.cells dSum.toArray T (0, 0))) := Lib.hid (by subst hW; exact row_alloc HL5.out _)
  have HR0 : Hid (Wa0.heap[w.heap.size]? = some (.cells (zerosU8 20).toArray 56 (0, 0))) := Lib.hid (by subst hW; exact row_alloc HR5.out _)
  have HZ0 : Hid (Wa0.heap.size = W5.heap.size + 1) := Lib.hid (by subst hW; exact heap_new_size _ _)
  have HSW : Hid (w.heap.size + 2 ≤ W5.heap.size) := Lib.hid HZ5.out
  obtain ⟨g, hg⟩ : ∃ g, g = W5.heap.size := ⟨_, rfl⟩
  rw [← hg] at HS0 HZ0 HSW ⊢
  clear hW HL5 HG5 HR5 HZ5 hg
  have hgw : w.heap.size + 2 ≤ g := HSW.out
  have c0 : Wa0.cell? ⟨d, 0, none⟩ = some (.int .u32 (outk 0)) := row_cell2 HD0.out (dSum_at 0 (by decide))
  go_still_tail 6, (by kernel_rfl)
  change wpList _ _ _ _ _ Wa0.drew
  clear c0
  have HS0b : Hid (Wa0.drew.heap[g]? = some (.cells (zerosU8 20).toArray 56 (0, 0))) := Lib.hid HS0.out
  have HG0b : Hid (w.grownBy Wa0.drew (some d)) := Lib.hid (grownBy_drew HG0.out)
  have HD0b : Hid (Wa0.drew.heap[d]? = some (.cells dSum.toArray T (0, 0))) := Lib.hid HD0.out
  have HR0b : Hid (Wa0.drew.heap[w.heap.size]? = some (.cells (zerosU8 20).toArray 56 (0, 0))) := Lib.hid HR0.out
  have HZ0b : Hid (Wa0.drew.heap.size ≥ g + 1) := Lib.hid (by have := HZ0.out; show g + 1 ≤ Wa0.heap.size; omega)
  generalize Wa0.drew = Wb0 at HS0b HG0b HD0b HR0b HZ0b ⊢
  clear HS0 HG0 HD0 HR0 HZ0
  go_wp2_with fail
  with_reducible refine (put32_any g 0 20 20 56 (zerosU8 20) (outk 0) Wb0 HS0b.out (by decide) (by decide) (by decide)).mono ?_
  rintro e Wa1 ⟨rfl, h1, h2⟩
  have HS1 := Lib.hid h1
  have HG1 : Hid (w.grownBy Wa1 (some d)) := Lib.hid (grownBy_to HG0b.out h2 (by omega))
  have HD1 : Hid (Wa1.heap[d]? = some (.cells dSum.toArray T (0, 0))) := Lib.hid ((h2.block d (by have := HZ0b.out; omega) (fun e => by have := Option.some.inj e; omega)).trans HD0b.out)
  have HR1 : Hid (Wa1.heap[w.heap.size]? = some (.cells (zerosU8 20).toArray 56 (0, 0))) := Lib.hid ((h2.block w.heap.size (by have := HZ0b.out; omega) (fun e => by have := Option.some.inj e; omega)).trans HR0b.out)
  have HZ1 : Hid (Wa1.heap.size ≥ g + 1) := Lib.hid (Nat.le_trans HZ0b.out h2.size)
  clear h1 h2 HS0b HG0b HD0b HR0b HZ0b
  go_upto_region 16 with (fail)
  have c1 : Wa1.cell? ⟨d, 1, none⟩ = some (.int .u32 (outk 1)) := row_cell2 HD1.out (dSum_at 1 (by decide))
  go_still_tail 6, (by kernel_rfl)
  change wpList _ _ _ _ _ Wa1.drew
  clear c1
  have HS1b : Hid (Wa1.drew.heap[g]? = some (.cells (put4 (zerosU8 20) 0 (outk 0)).toArray 56 (0, 0))) := Lib.hid HS1.out
  have HG1b : Hid (w.grownBy Wa1.drew (some d)) := Lib.hid (grownBy_drew HG1.out)
  have HD1b : Hid (Wa1.drew.heap[d]? = some (.cells dSum.toArray T (0, 0))) := Lib.hid HD1.out
  have HR1b : Hid (Wa1.drew.heap[w.heap.size]? = some (.cells (zerosU8 20).toArray 56 (0, 0))) := Lib.hid HR1.out
  have HZ1b : Hid (Wa1.drew.heap.size ≥ g + 1) := Lib.hid (by have := HZ1.out; show g + 1 ≤ Wa1.heap.size; omega)
  generalize Wa1.drew = Wb1 at HS1b HG1b HD1b HR1b HZ1b ⊢
  clear HS1 HG1 HD1 HR1 HZ1
  go_wp2_with fail
  with_reducible refine (put32_any g 4 16 16 56 (put4 (zerosU8 20) 0 (outk 0)) (outk 1) Wb1 HS1b.out (by decide) (by decide) (by decide)).mono ?_
  rintro e Wa2 ⟨rfl, h1, h2⟩
  have HS2 := Lib.hid h1
  have HG2 : Hid (w.grownBy Wa2 (some d)) := Lib.hid (grownBy_to HG1b.out h2 (by omega))
  have HD2 : Hid (Wa2.heap[d]? = some (.cells dSum.toArray T (0, 0))) := Lib.hid ((h2.block d (by have := HZ1b.out; omega) (fun e => by have := Option.some.inj e; omega)).trans HD1b.out)
  have HR2 : Hid (Wa2.heap[w.heap.size]? = some (.cells (zerosU8 20).toArray 56 (0, 0))) := Lib.hid ((h2.block w.heap.size (by have := HZ1b.out; omega) (fun e => by have := Option.some.inj e; omega)).trans HR1b.out)
  have HZ2 : Hid (Wa2.heap.size ≥ g + 1) := Lib.hid (Nat.le_trans HZ1b.out h2.size)
  clear h1 h2 HS1b HG1b HD1b HR1b HZ1b
  go_upto_region 17 with (fail)
  have c2 : Wa2.cell? ⟨d, 2, none⟩ = some (.int .u32 (outk 2)) := row_cell2 HD2.out (dSum_at 2 (by decide))
  go_still_tail 6, (by kernel_rfl)
  change wpList _ _ _ _ _ Wa2.drew
  clear c2
  have HS2b : Hid (Wa2.drew.heap[g]? = some (.cells (put4 (put4 (zerosU8 20) 0 (outk 0)) 4 (outk 1)).toArray 56 (0, 0))) := Lib.hid HS2.out
  have HG2b : Hid (w.grownBy Wa2.drew (some d)) := Lib.hid (grownBy_drew HG2.out)
  have HD2b : Hid (Wa2.drew.heap[d]? = some (.cells dSum.toArray T (0, 0))) := Lib.hid HD2.out
  have HR2b : Hid (Wa2.drew.heap[w.heap.size]? = some (.cells (zerosU8 20).toArray 56 (0, 0))) := Lib.hid HR2.out
  have HZ2b : Hid (Wa2.drew.heap.size ≥ g + 1) := Lib.hid (by have := HZ2.out; show g + 1 ≤ Wa2.heap.size; omega)
  generalize Wa2.drew = Wb2 at HS2b HG2b HD2b HR2b HZ2b ⊢
  clear HS2 HG2 HD2 HR2 HZ2
  go_wp2_with fail
  with_reducible refine (put32_any g 8 12 12 56 (put4 (put4 (zerosU8 20) 0 (outk 0)) 4 (outk 1)) (outk 2) Wb2 HS2b.out (by decide) (by decide) (by decide)).mono ?_
  rintro e Wa3 ⟨rfl, h1, h2⟩
  have HS3 := Lib.hid h1
  have HG3 : Hid (w.grownBy Wa3 (some d)) := Lib.hid (grownBy_to HG2b.out h2 (by omega))
  have HD3 : Hid (Wa3.heap[d]? = some (.cells dSum.toArray T (0, 0))) := Lib.hid ((h2.block d (by have := HZ2b.out; omega) (fun e => by have := Option.some.inj e; omega)).trans HD2b.out)
  have HR3 : Hid (Wa3.heap[w.heap.size]? = some (.cells (zerosU8 20).toArray 56 (0, 0))) := Lib.hid ((h2.block w.heap.size (by have := HZ2b.out; omega) (fun e => by have := Option.some.inj e; omega)).trans HR2b.out)
  have HZ3 : Hid (Wa3.heap.size ≥ g + 1) := Lib.hid (Nat.le_trans HZ2b.out h2.size)
  clear h1 h2 HS2b HG2b HD2b HR2b HZ2b
  go_upto_region 18 with (fail)
  have c3 : Wa3.cell? ⟨d, 3, none⟩ = some (.int .u32 (outk 3)) := row_cell2 HD3.out (dSum_at 3 (by decide))
  go_still_tail 6, (by kernel_rfl)
  change wpList _ _ _ _ _ Wa3.drew
  clear c3
  have HS3b : Hid (Wa3.drew.heap[g]? = some (.cells (put4 (put4 (put4 (zerosU8 20) 0 (outk 0)) 4 (outk 1)) 8 (outk 2)).toArray 56 (0, 0))) := Lib.hid HS3.out
  have HG3b : Hid (w.grownBy Wa3.drew (some d)) := Lib.hid (grownBy_drew HG3.out)
  have HD3b : Hid (Wa3.drew.heap[d]? = some (.cells dSum.toArray T (0, 0))) := Lib.hid HD3.out
  have HR3b : Hid (Wa3.drew.heap[w.heap.size]? = some (.cells (zerosU8 20).toArray 56 (0, 0))) := Lib.hid HR3.out
  have HZ3b : Hid (Wa3.drew.heap.size ≥ g + 1) := Lib.hid (by have := HZ3.out; show g + 1 ≤ Wa3.heap.size; omega)
  generalize Wa3.drew = Wb3 at HS3b HG3b HD3b HR3b HZ3b ⊢
  clear HS3 HG3 HD3 HR3 HZ3
  go_wp2_with fail
  with_reducible refine (put32_any g 12 8 8 56 (put4 (put4 (put4 (zerosU8 20) 0 (outk 0)) 4 (outk 1)) 8 (outk 2)) (outk 3) Wb3 HS3b.out (by decide) (by decide) (by decide)).mono ?_
  rintro e Wa4 ⟨rfl, h1, h2⟩
  have HS4 := Lib.hid h1
  have HG4 : Hid (w.grownBy Wa4 (some d)) := Lib.hid (grownBy_to HG3b.out h2 (by omega))
  have HD4 : Hid (Wa4.heap[d]? = some (.cells dSum.toArray T (0, 0))) := Lib.hid ((h2.block d (by have := HZ3b.out; omega) (fun e => by have := Option.some.inj e; omega)).trans HD3b.out)
  have HR4 : Hid (Wa4.heap[w.heap.size]? = some (.cells (zerosU8 20).toArray 56 (0, 0))) := Lib.hid ((h2.block w.heap.size (by have := HZ3b.out; omega) (fun e => by have := Option.some.inj e; omega)).trans HR3b.out)
  have HZ4 : Hid (Wa4.heap.size ≥ g + 1) := Lib.hid (Nat.le_trans HZ3b.out h2.size)
  clear h1 h2 HS3b HG3b HD3b HR3b HZ3b
  go_upto_region 19 with (fail)
  have c4 : Wa4.cell? ⟨d, 4, none⟩ = some (.int .u32 (outk 4)) := row_cell2 HD4.out (dSum_at 4 (by decide))
  go_still_tail 6, (by kernel_rfl)
  change wpList _ _ _ _ _ Wa4.drew
  clear c4
  have HS4b : Hid (Wa4.drew.heap[g]? = some (.cells (put4 (put4 (put4 (put4 (zerosU8 20) 0 (outk 0)) 4 (outk 1)) 8 (outk 2)) 12 (outk 3)).toArray 56 (0, 0))) := Lib.hid HS4.out
  have HG4b : Hid (w.grownBy Wa4.drew (some d)) := Lib.hid (grownBy_drew HG4.out)
  have HD4b : Hid (Wa4.drew.heap[d]? = some (.cells dSum.toArray T (0, 0))) := Lib.hid HD4.out
  have HR4b : Hid (Wa4.drew.heap[w.heap.size]? = some (.cells (zerosU8 20).toArray 56 (0, 0))) := Lib.hid HR4.out
  have HZ4b : Hid (Wa4.drew.heap.size ≥ g + 1) := Lib.hid (by have := HZ4.out; show g + 1 ≤ Wa4.heap.size; omega)
  generalize Wa4.drew = Wb4 at HS4b HG4b HD4b HR4b HZ4b ⊢
  clear HS4 HG4 HD4 HR4 HZ4
  go_wp2_with fail
  with_reducible refine (put32_any g 16 4 4 56 (put4 (put4 (put4 (put4 (zerosU8 20) 0 (outk 0)) 4 (outk 1)) 8 (outk 2)) 12 (outk 3)) (outk 4) Wb4 HS4b.out (by decide) (by decide) (by decide)).mono ?_
  rintro e Wa5 ⟨rfl, h1, h2⟩
  have HS5 := Lib.hid h1
  have HG5 : Hid (w.grownBy Wa5 (some d)) := Lib.hid (grownBy_to HG4b.out h2 (by omega))
  have HD5 : Hid (Wa5.heap[d]? = some (.cells dSum.toArray T (0, 0))) := Lib.hid ((h2.block d (by have := HZ4b.out; omega) (fun e => by have := Option.some.inj e; omega)).trans HD4b.out)
  have HR5 : Hid (Wa5.heap[w.heap.size]? = some (.cells (zerosU8 20).toArray 56 (0, 0))) := Lib.hid ((h2.block w.heap.size (by have := HZ4b.out; omega) (fun e => by have := Option.some.inj e; omega)).trans HR4b.out)
  have HZ5 : Hid (Wa5.heap.size ≥ g + 1) := Lib.hid (Nat.le_trans HZ4b.out h2.size)
  clear h1 h2 HS4b HG4b HD4b HR4b HZ4b
  go_upto_region 20 with (fail)
  have HS6 : Hid (Wa5.heap[g]? = some (.cells (bv (numL sumN) 20).toArray 56 (0, 0))) := Lib.hid (by rw [← sum5_eq]; exact HS5.out)
  clear HS5
  have HG6 : Hid (w.grownBy (Wa5.setRow w.heap.size (bv (numL sumN) 20).toArray) (some d)) := Lib.hid (grownBy_to HG5.out (grownBy_setRow (grownBy_refl Wa5 w.heap.size) _) (Nat.le_refl _))
  have HR6 : Hid ((Wa5.setRow w.heap.size (bv (numL sumN) 20).toArray).heap[w.heap.size]? = some (.cells (bv (numL sumN) 20).toArray 56 (0, 0))) := Lib.hid (setRow_row HR5.out _)
  go_wp2_with (first | (refine wpList_load_row rfl 56 (.tmp 7) rfl g rfl 56 (bv (numL sumN) 20).toArray (0, 0) _ HS6.out arr20Kind rfl arr20Size ?_) | (refine wpList_store_row rfl 56 (.tmp 2) (.tmp 76) rfl w.heap.size (bv (numL sumN) 20).toArray rfl rfl 56 _ HR5.out arr20Size arr20Old arr20One ?_))
  refine bodyPost_ret (results_cell_row rfl _ _ w.heap.size _ _ (0, 0) _ rfl HR6.out arr20Kind rfl arr20Size) rfl ?_
  exact ⟨rfl, HG6.out⟩
end Go.Proofs.YtnhegjjegamdfaaFmt
