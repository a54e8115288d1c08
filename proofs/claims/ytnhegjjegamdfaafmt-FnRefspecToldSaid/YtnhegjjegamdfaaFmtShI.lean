/- plumbing: Sum of a Hasher; ComputeHash of the one blob. -/
import Derived.Test.YtnhegjjegamdfaaFmtShH
import Derived.Deep.RegionLaw
namespace Go.Proofs.YtnhegjjegamdfaaFmt
open Go.RowKit
set_option linter.unusedSimpArgs false
set_option linter.unusedVariables false

def m6 : List Nat := [104, 101, 108, 108, 111, 10]
theorem hashKind : Tryf.prog.underlying 57 = some (.array 20 5) := by kernel_rfl
theorem hashSize : (Tryf.prog.info? 57).map (·.size) = some (bv (numL sumN) 20).toArray.size := by kernel_rfl
theorem splice20 : splice (zerosU8 20) 0 (bv (numL sumN) 20) = bv (numL sumN) 20 := by kernel_rfl
theorem src_of {w : World} {g n : Nat} {l : List Nat} (h : ∀ i, i < n → w.cell? ⟨g, i, none⟩ = some (.int .u8 (numL l i : Nat))) : ∀ j v, (bv (numL l) n)[j]? = some v → w.cell? ((⟨g, 0, none⟩ : Addr).add j) = some v := fun j v hj => by
  obtain ⟨h1, rfl⟩ := bv_at _ _ j v hj
  rw [add_at, Nat.zero_add]
  exact h j h1
def HSumPost (w : World) (e : Ending) (w' : World) : Prop := e = .returned (.agg (bv (numL sumN) 20).toArray) ∧ Below w.heap.size w w'
set_option maxRecDepth 100000 in
set_option maxHeartbeats 4000000 in
theorem HSum_any (d : Nat) (T : TypeId) (w : World) (hL : w.heap[d]? = some (.cells (dOf msgN).toArray T (0, 0))) :
    Calls Tryf.prog 44 #[.agg #[.pointer (some ⟨d, 0, none⟩)]] w (HSumPost w) := by
  have HL := Lib.hid hL
  have hd : d < w.heap.size := (Array.getElem?_eq_some_iff.1 hL).1
  clear hL
  go_enter Tryf.func44, Tryf.ntmps44
  go_upto_region 1 with (fail)
  generalize hW : World.alloc (World.alloc w _) _ = W1
  have HB1 : Hid (Below w.heap.size w W1) := Lib.hid (by subst hW; exact ((Below.refl _ _).alloc (Nat.le_refl _) _).alloc (by rw [heap_new_size]; omega) _)
  have HZ1 : Hid (W1.heap.size = w.heap.size + 2) := Lib.hid (by subst hW; rw [heap_new_size, heap_new_size])
  have HC1 : Hid (W1.cell? ⟨w.heap.size, 0, none⟩ = some (.pointer (some ⟨d, 0, none⟩))) := Lib.hid (by subst hW; rw [Lib.cell_of_heap (row_alloc (heap_new _ _) _)]; rfl)
  have HR1 : Hid (W1.heap[w.heap.size + 1]? = some (.cells (zerosU8 20).toArray 57 (0, 0))) := Lib.hid (by subst hW; rw [← heap_new_size w (.cells #[.pointer (some ⟨d, 0, none⟩)] 65)]; exact heap_new _ _)
  clear hW
  have c1 := HC1.out
  have HN : Hid ((bv (numL sumN) 20).length = Nat.min sumN.length 20) := Lib.hid (by kernel_rfl)
  have HF : Hid (0 + (bv (numL sumN) 20).length ≤ (zerosU8 20).length) := Lib.hid (by decide)
  have HL1 : Hid (W1.heap[d]? = some (.cells (dOf msgN).toArray T (0, 0))) := Lib.hid ((HB1.out.block d hd).trans HL.out)
  go_region_law (first | (go_simp; go_at_call 54; refine (Sum_any d T _ (by exact HL1.out)).mono ?_; rintro e W3 ⟨g, cap, rfl, q1, q2, q3, q4, hb0⟩; have hb : Below W1.heap.size W1 W3 := (by first | exact hb0 | exact (Below.refl _ _).drew.trans hb0); have HQ := Lib.hid (And.intro q1 (And.intro q2 q4)); have HR3 : Hid (W3.heap[w.heap.size + 1]? = some (.cells (zerosU8 20).toArray 57 (0, 0))) := Lib.hid ((hb.block (w.heap.size + 1) (by rw [HZ1.out]; omega)).trans HR1.out); have HB3 : Hid (Below w.heap.size w W3) := Lib.hid (HB1.out.trans (hb.mono HB1.out.size)); have HSRC := Lib.hid (src_of (n := 20) HQ.out.2.2); clear q1 q2 q3 q4 hb0 hb) | (refine step_copy_splice rfl (.tmp 3) (.tmp 6) 51 51 rfl 5 bytesKind u8Size (some ⟨w.heap.size + 1, 0, none⟩) (some ⟨g, 0, none⟩) 20 20 sumN.length cap rfl rfl (w.heap.size + 1) 0 (zerosU8 20) 57 HR3.out (bv (numL sumN) 20) HN.out (fun _ => ⟨rfl, _, rfl, HSRC.out⟩) HF.out (bv_one _ _) w.heap.size w HB3.out (by omega) ?_; intro W4 hR4 hB4; rw [splice20] at hR4; have HR4 := hR4; have HB4 := Lib.hid hB4; clear hR4 hB4))
  go_wp2
  refine bodyPost_ret (results_cell_row rfl _ _ (w.heap.size + 1) _ _ (0, 0) _ rfl HR4.out hashKind rfl hashSize) rfl ?_
  exact ⟨rfl, HB4.out⟩

def ComputePost (w : World) (e : Ending) (w' : World) : Prop := e = .returned (.agg (bv (numL sumN) 20).toArray) ∧ Below w.heap.size w w'
theorem hash0 : (#[.int .u8 0, .int .u8 0, .int .u8 0, .int .u8 0, .int .u8 0, .int .u8 0, .int .u8 0, .int .u8 0, .int .u8 0, .int .u8 0, .int .u8 0, .int .u8 0, .int .u8 0, .int .u8 0, .int .u8 0, .int .u8 0, .int .u8 0, .int .u8 0, .int .u8 0, .int .u8 0] : Array Value) = (zerosU8 20).toArray := by kernel_rfl
theorem hashOld : (zerosU8 20).toArray.size = (bv (numL sumN) 20).toArray.size := by kernel_rfl
set_option maxRecDepth 100000 in
set_option maxHeartbeats 4000000 in
theorem Compute_any (sb c : Nat) (w : World) (hsb : sb < w.heap.size) (hc : m6.length ≤ c) (hcm : c ≤ 9223372036854775807) (hs : ∀ i, i < m6.length → w.cell? ⟨sb, 0 + i, none⟩ = some (.int .u8 (numL m6 i : Nat))) :
    Calls Tryf.prog 37 #[.int .i8 3, .slice (some ⟨sb, 0, none⟩) 6 c] w (ComputePost w) := by
  have HS := Lib.hid hs; clear hs
  go_enter Tryf.func37, Tryf.ntmps37
  go_wp2_with fail
  generalize hW : w.alloc _ = W1
  have HB1 : Hid (Below w.heap.size w W1) := Lib.hid (by subst hW; exact (Below.refl _ _).alloc (Nat.le_refl _) _)
  have HZ1 : Hid (W1.heap.size = w.heap.size + 1) := Lib.hid (by subst hW; exact heap_new_size _ _)
  have HR1 : Hid (W1.heap[w.heap.size]? = some (.cells (zerosU8 20).toArray 57 (0, 0))) := Lib.hid (by subst hW; exact heap_new _ _)
  clear hW
  with_reducible refine (NewHasher_any W1).mono ?_
  rintro e W2 ⟨d, rfl, q1, q2, q3⟩
  have HR2 : Hid (W2.heap[w.heap.size]? = some (.cells (zerosU8 20).toArray 57 (0, 0))) := Lib.hid ((q3.block w.heap.size (by rw [HZ1.out]; omega)).trans HR1.out)
  have HD2 := Lib.hid q2
  have hdw : w.heap.size < d := by rw [HZ1.out] at q1; omega
  have HB2 : Hid (Below w.heap.size w W2) := Lib.hid (HB1.out.trans (q3.mono HB1.out.size))
  have HDZ : Hid (d < W2.heap.size) := Lib.hid (Array.getElem?_eq_some_iff.1 q2).1
  clear q1 q2 q3 HB1 HZ1 HR1
  go_upto_region 2 with (fail)
  generalize hW : W2.alloc _ = W3
  obtain ⟨hb, hhb⟩ : ∃ hb, hb = W2.heap.size := ⟨_, rfl⟩
  have HH3 : Hid (W3.heap[hb]? = some (.cells #[.pointer (some ⟨d, 0, none⟩)] 65 (0, 0))) := Lib.hid (by subst hW; rw [hhb]; exact heap_new _ _)
  have HD3 : Hid (W3.heap[d]? = some (.cells (dOf l7).toArray 81 (0, 0))) := Lib.hid (by subst hW; exact row_alloc HD2.out _)
  have HB3 : Hid (Below w.heap.size w W3) := Lib.hid (by subst hW; exact HB2.out.alloc HB2.out.size _)
  have HR3 : Hid (W3.heap[w.heap.size]? = some (.cells (zerosU8 20).toArray 57 (0, 0))) := Lib.hid (by subst hW; exact row_alloc HR2.out _)
  have HZ3 : Hid (d < hb ∧ hb < W3.heap.size) := Lib.hid (by subst hW; rw [hhb, heap_new_size]; exact ⟨HDZ.out, by omega⟩)
  rw [← hhb]
  clear hW HD2 HB2 HR2 HDZ hhb
  have hc3 : W3.cell? ⟨hb, 0, none⟩ = some (.pointer (some ⟨d, 0, none⟩)) := by rw [Lib.cell_of_heap HH3.out]; rfl
  go_wp2_with fail
  with_reducible refine (write_to l7 m6 msgN 6 d sb 0 c rfl 81 W3 ok7 HD3.out (by decide) (by decide) (by kernel_rfl) hc hcm (by omega) (fun i hi => (HB3.out.cell (p := ⟨sb, 0 + i, none⟩) hsb).trans (HS.out i hi))).mono ?_
  rintro e W4 ⟨rfl, h1, h2⟩
  have HD4 := Lib.hid h1
  have HB4 : Hid (Below w.heap.size w W4) := Lib.hid (below_of HB3.out h2 (by omega))
  have HR4 : Hid (W4.heap[w.heap.size]? = some (.cells (zerosU8 20).toArray 57 (0, 0))) := Lib.hid ((h2.block w.heap.size (by have := HZ3.out; omega) (fun e => by have := Option.some.inj e; omega)).trans HR3.out)
  have HH4 : Hid (W4.heap[hb]? = some (.cells #[.pointer (some ⟨d, 0, none⟩)] 65 (0, 0))) := Lib.hid ((h2.block hb HZ3.out.2 (fun e => by have := Option.some.inj e; have := HZ3.out; omega)).trans HH3.out)
  clear h1 h2 HH3 HD3 HB3 HR3 hc3
  go_wp2_with (first | (refine wpList_load_row rfl 65 (.tmp 5) rfl hb rfl 65 #[.pointer (some ⟨d, 0, none⟩)] (0, 0) _ HH4.out hasherKind rfl hasherSize ?_))
  with_reducible refine (HSum_any d 81 W4 HD4.out).mono ?_
  rintro e W5 ⟨rfl, hb5⟩
  have HR5 : Hid (W5.heap[w.heap.size]? = some (.cells (zerosU8 20).toArray 57 (0, 0))) := Lib.hid ((hb5.block w.heap.size (Array.getElem?_eq_some_iff.1 HR4.out).1).trans HR4.out)
  have HB5 : Hid (Below w.heap.size w W5) := Lib.hid (HB4.out.trans (hb5.mono HB4.out.size))
  clear hb5 HD4 HB4 HR4 HH4
  have HR6 : Hid ((W5.setRow w.heap.size (bv (numL sumN) 20).toArray).heap[w.heap.size]? = some (.cells (bv (numL sumN) 20).toArray 57 (0, 0))) := Lib.hid (setRow_row HR5.out _)
  have HB6 : Hid (Below w.heap.size w (W5.setRow w.heap.size (bv (numL sumN) 20).toArray)) := Lib.hid (below_of HB5.out (grownBy_setRow (grownBy_refl _ w.heap.size) _) (Nat.le_refl _))
  go_wp2_with (refine wpList_store_row rfl 57 (.tmp 4) (.tmp 15) rfl w.heap.size (bv (numL sumN) 20).toArray rfl rfl 57 _ HR5.out hashSize hashOld arr20One ?_)
  refine bodyPost_ret (results_cell_row rfl _ _ w.heap.size _ _ (0, 0) _ rfl HR6.out hashKind rfl hashSize) rfl ?_
  exact ⟨rfl, HB6.out⟩
end Go.Proofs.YtnhegjjegamdfaaFmt
