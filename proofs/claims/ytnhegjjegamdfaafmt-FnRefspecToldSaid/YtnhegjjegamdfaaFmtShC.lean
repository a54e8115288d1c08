/- crypto/sha1.Write where the block gets full. -/
import Derived.Test.YtnhegjjegamdfaaFmtShW
import Derived.Test.YtnhegjjegamdfaaFmtShB
namespace Go.Proofs.YtnhegjjegamdfaaFmt
open Go.RowKit
set_option linter.unusedSimpArgs false
set_option linter.unusedVariables false

set_option maxHeartbeats 400000 in
theorem blockW_any (d po : Nat) (T : TypeId) (L : List Value) (w : World) (hd : d < w.heap.size) (hL : w.heap[d]? = some (.cells L.toArray T (0, 0))) (hh5 : ∀ i, i < 5 → L[i]? = some (.int .u32 (h0k i))) (hb64 : ∀ i, i < 64 → L[po + i]? = some (.int .u8 (bk i))) (hpo : po ≤ 1000) :
    Calls Tryf.prog 53 #[.pointer (some ⟨d, 0, none⟩), .slice (some ⟨d, po, none⟩) 64 64] w (BlockPost d T L w) := by
  have HB := Lib.hid (block_any d d po rfl T L w hd hL hh5 hb64 hpo)
  clear hL hh5 hb64
  go_enter Tryf.func53, Tryf.ntmps53
  go_wp2_with fail
  with_reducible refine HB.out.mono ?_
  rintro e w' ⟨rfl, h1, h2⟩
  have H1 := Lib.hid h1; have H2 := Lib.hid h2
  clear h1 h2 HB
  go_wp2
  go_end0
  exact ⟨rfl, H1.out, H2.out⟩

/-- The digest's cells as the block is taken up. -/
def dFull (L : List Value) (nx len n : Nat) (f : Nat → Nat) : List Value := (splice (L.set 70 (.int .u64 ((len + n : Nat) : Int))) (5 + nx) (bv f n)).set 69 (.int .i64 64)
def FillPost (d : Nat) (T : TypeId) (L : List Value) (nx len n : Nat) (f : Nat → Nat) (w : World) (e : Ending) (w' : World) : Prop :=
  e = .returned (.tuple #[.int .i64 n, .nilIface]) ∧ w'.heap[d]? = some (.cells ((hash5 (dFull L nx len n f)).set 69 (.int .i64 0)).toArray T (0, 0)) ∧ w.grownBy w' (some d)

set_option maxRecDepth 100000 in
set_option maxHeartbeats 2000000 in
theorem write_fill (d sb so c : Nat) (T : TypeId) (L : List Value) (nx len n : Nat) (f : Nat → Nat) (w : World) (h : Dig w d T L nx len) (hnx : 1 ≤ nx) (hn0 : 1 ≤ n) (hn : nx + n = 64) (hlen : len < 1000) (hc : n ≤ c) (hcm : c ≤ 9223372036854775807) (hsd : sb ≠ d)
    (hs : ∀ i, i < n → w.cell? ⟨sb, so + i, none⟩ = some (.int .u8 (f i : Nat)))
    (hh5 : ∀ i, i < 5 → (dFull L nx len n f)[i]? = some (.int .u32 (h0k i))) (hb64 : ∀ i, i < 64 → (dFull L nx len n f)[5 + i]? = some (.int .u8 (bk i))) :
    Calls Tryf.prog 43 #[.pointer (some ⟨d, 0, none⟩), .slice (some ⟨sb, so, none⟩) n c] w (FillPost d T L nx len n f w) := by
  have c70 := row_cell2 h.row h.len
  have c69 : (w.setCell ⟨d, 70, none⟩ (.int .u64 ((len : Int) + n))).cell? ⟨d, 69, none⟩ = some (.int .i64 (nx : Nat)) := row_cell2 (row_set2 h.row _) (by rw [List.getElem?_set_ne (by decide)]; exact h.nx)
  have f70 := Lib.frozen_of_heap h.row 70
  have hnx0 : (0 : Int) < (nx : Int) := by omega
  have HD := Lib.hid h; have HSR := Lib.hid hs
  have HH5 := Lib.hid hh5; have HB64 := Lib.hid hb64
  clear h hs hh5 hb64
  go_enter Tryf.func43, Tryf.ntmps43
  go_upto_region 4 with (fail)
  clear c70 c69 f70
  have HG1 : Hid (w.grownBy (w.setCell ⟨d, 70, none⟩ (.int .u64 ((len : Int) + n))) (some d)) := Lib.hid (grownBy_set2 (grownBy_refl w d) _ _)
  have HL1 : Hid ((w.setCell ⟨d, 70, none⟩ (.int .u64 ((len : Int) + n))).heap[d]? = some (.cells (L.set 70 (.int .u64 ((len + n : Nat) : Int))).toArray T (0, 0))) := Lib.hid (row_set2 HD.out.row _)
  generalize w.setCell ⟨d, 70, none⟩ (.int .u64 ((len : Int) + n)) = W0 at HG1 HL1 ⊢
  have hls : (L.set 70 (.int .u64 ((len + n : Nat) : Int))).length = 71 := by rw [List.length_set]; exact HD.out.size
  have HLS := Lib.hid hls; clear hls
  have c69 : W0.cell? ⟨d, 69, none⟩ = some (.int .i64 (nx : Nat)) := row_cell2 HL1.out (by rw [List.getElem?_set_ne (by decide)]; exact HD.out.nx)
  have b0 : (0 : Int) ≤ (nx : Int) := by omega
  have b1 : (nx : Int) ≤ 64 := by omega
  have hne : ¬ 64 = nx := by omega
  go_still_tail 9, (by kernel_rfl)
  change wpList _ _ _ _ _ W0.drew
  clear c69 b0 b1 hne
  have HG2 : Hid (w.grownBy W0.drew (some d)) := Lib.hid ⟨HG1.out.os, HG1.out.tape, HG1.out.output, HG1.out.size, HG1.out.block⟩
  have HL2 : Hid (W0.drew.heap[d]? = some (.cells (L.set 70 (.int .u64 ((len + n : Nat) : Int))).toArray T (0, 0))) := Lib.hid HL1.out
  generalize W0.drew = W1 at HG2 HL2 ⊢
  have hmin : (bv f n).length = Nat.min n (64 - nx) := by rw [bv_length]; exact (Nat.min_eq_left (by omega)).symm
  have hsrc : ∀ j v, (bv f n)[j]? = some v → W1.cell? ((⟨sb, so, none⟩ : Addr).add j) = some v := fun j v hj => by
    obtain ⟨h1, rfl⟩ := bv_at f n j v hj
    have hsb : sb < w.heap.size := block_lt_of_cell (HSR.out j h1)
    rw [add_at, grownBy_cell HG2.out hsb hsd]
    exact HSR.out j h1
  have hfit : 5 + nx + (bv f n).length ≤ (L.set 70 (.int .u64 ((len + n : Nat) : Int))).toArray.size := by have := HLS.out; rw [bv_length]; simp only [List.size_toArray]; omega
  refine wpList_copy_own rfl (.tmp 31) (.tmp 32) 51 51 rfl 5 bytesKind u8Size d (5 + nx) (64 - nx) (64 - nx) ⟨sb, so, none⟩ n c rfl rfl _ T HL2.out (bv f n) hmin hsrc hfit (bv_one f n) ?_
  have hsp : (splice (L.set 70 (.int .u64 ((len + n : Nat) : Int))) (5 + nx) (bv f n)).length = 71 := (length_splice _ _ _ (by simpa using hfit)).trans HLS.out
  have HSP := Lib.hid hsp
  generalize hW2 : W1.setRow d _ = W2
  have HL3 : Hid (W2.heap[d]? = some (.cells (splice (L.set 70 (.int .u64 ((len + n : Nat) : Int))) (5 + nx) (bv f n)).toArray T (0, 0))) := Lib.hid (by subst hW2; exact setRow_row HL2.out _)
  have HG3 : Hid (w.grownBy W2 (some d)) := Lib.hid (by subst hW2; exact grownBy_setRow HG2.out _)
  have c69 : W2.cell? ⟨d, 69, none⟩ = some (.int .i64 (nx : Nat)) := row_cell2 HL3.out (by
    have h5 : 5 + nx + (bv f n).length ≤ 69 := by rw [bv_length]; omega
    rw [splice_out _ _ _ _ h5 (by rw [HLS.out]; omega), List.getElem?_set_ne (by decide)]; exact HD.out.nx)
  have f69 := Lib.frozen_of_heap HL3.out 69
  clear hW2 hsp hfit hsrc hmin
  rw [bv_length]
  have HL4 : Hid ((W2.setCell ⟨d, 69, none⟩ (.int .i64 64)).heap[d]? = some (.cells (dFull L nx len n f).toArray T (0, 0))) := Lib.hid (row_set2 (i := 69) HL3.out (.int .i64 64))
  have HG4 := Lib.hid (grownBy_set2 HG3.out 69 (.int .i64 64))
  have hdl : (dFull L nx len n f).length = 71 := by unfold dFull; rw [List.length_set]; exact HSP.out
  have HDL := Lib.hid hdl; clear hdl
  have c69b : (W2.setCell ⟨d, 69, none⟩ (.int .i64 64)).cell? ⟨d, 69, none⟩ = some (.int .i64 64) := row_cell2 HL4.out (by unfold dFull; rw [List.getElem?_set_self (by rw [HSP.out]; decide)])
  have b3 : (nx : Int) + n = 64 := by omega
  have HWD : Hid (d < W2.heap.size) := Lib.hid (Array.getElem?_eq_some_iff.1 HL3.out).1
  have HS69 : Hid (d < (W2.setCell ⟨d, 69, none⟩ (.int .i64 64)).heap.size) := Lib.hid (by rw [World.size_setCell]; exact HWD.out)
  go_wp2_with fail
  with_reducible refine (blockW_any d 5 T _ _ HS69.out HL4.out HH5.out HB64.out (by decide)).mono ?_
  rintro e W3 ⟨rfl, h1, h2⟩
  have HL5 := Lib.hid h1
  have HG5 : Hid (w.grownBy W3 (some d)) := Lib.hid ⟨h2.os.trans HG4.out.os, h2.tape.trans HG4.out.tape, h2.output.trans HG4.out.output, Nat.le_trans HG4.out.size h2.size, fun k hk hne => (h2.block k (Nat.lt_of_lt_of_le hk HG4.out.size) hne).trans (HG4.out.block k hk hne)⟩
  clear h1 h2 c69 f69 c69b
  obtain ⟨v69, c69⟩ := row_ex (i := 69) HL5.out (by unfold hash5; simp only [List.length_set]; rw [HDL.out]; decide)
  have f69 := Lib.frozen_of_heap HL5.out 69
  have HL6 := Lib.hid (row_set2 (i := 69) HL5.out (.int .i64 0))
  have HG6 := Lib.hid (grownBy_set2 HG5.out 69 (.int .i64 0))
  go_wp2
  all_goals
    go_ret2
    exact ⟨rfl, HL6.out, HG6.out⟩
end Go.Proofs.YtnhegjjegamdfaaFmt
