/- crypto/sha1.blockGeneric over the one block. -/
import Derived.Test.YtnhegjjegamdfaaFmtShA
import Derived.LoopN
import Derived.BigRegion
import Derived.StillTailTactics
import Derived.IntWalk
namespace Go.Proofs.YtnhegjjegamdfaaFmt
open Go.RowKit
set_option linter.unusedSimpArgs false
set_option linter.unusedVariables false

def outk (i : Nat) : Int := outL.getD i 0
def lenOf (v : Value) : Nat := match v with | .slice _ n _ => n | _ => 0
def h0k (i : Nat) : Int := [1732584193, 4023233417, 2562383102, 271733878, 3285377520].getD i 0
/-- The cells of w: 16 words, as they are ahead of turn i. -/
def ring (i j : Nat) : Int := if i < 16 then (if j < i then wk j else 0) else wk (i - 1 - (i + 15 - j) % 16)
def Ring (w : World) (b : Nat) (i : Nat) : Prop := ∀ j, j < 16 → w.cell? ⟨b, j, none⟩ = some (.int .u32 (ring i j)) ∧ w.frozen? ⟨b, j, none⟩ = false

theorem Ring.below {w w' : World} {B b i : Nat} (h : Ring w b i) (hb : Below B w w') (hB : b < B) : Ring w' b i := fun j hj => by
  refine ⟨(hb.cell (p := ⟨b, j, none⟩) hB).trans (h j hj).1, ?_⟩
  have := (h j hj).2
  unfold World.frozen? at this ⊢
  rw [hb.block b hB]; exact this

def wordOf (q : Nat) : Int := bits .or .u32 (bits .or .u32 (bits .or .u32 (bk q % 4294967296 * 16777216 % 4294967296) (bk (q + 1) % 4294967296 * 65536 % 4294967296)) (bk (q + 2) % 4294967296 * 256 % 4294967296)) (bk (q + 3) % 4294967296)
theorem wk_lo (k : Nat) (h : k < 16) : wordOf (4 * k) = wk k := by
  have : ∀ k : Nat, k < 16 → wordOf (4 * k) = wk k := by decide +kernel
  exact this k h
theorem ring_next (k j : Nat) (hk : k < 80) (hj : j < 16) : ring (k + 1) j = if j = k % 16 then wk k else ring k j := by
  have : ∀ k : Nat, k < 80 → ∀ j : Nat, j < 16 → ring (k + 1) j = if j = k % 16 then wk k else ring k j := by decide +kernel
  exact this k hk j hj
theorem Ring.store {w : World} {b k : Nat} (h : Ring w b k) (hk : k < 80) (hb : b < w.heap.size) : Ring (w.setCell ⟨b, k % 16, none⟩ (.int .u32 (wk k))) b (k + 1) := fun j hj => by
  obtain ⟨h1, h2⟩ := h j hj
  refine ⟨?_, by simpa using h2⟩
  rw [ring_next k j hk hj]
  by_cases e : j = k % 16
  · rw [if_pos e, e]
    rw [e] at h1
    exact World.cell?_setCell_same _ _ _ h1
  · rw [if_neg e, ← h1]
    exact World.cell?_setCell_other _ _ _ _ (fun h => e (congrArg Addr.off h).symm)

theorem turn1 (k : Nat) (h0 : 0 ≤ k) (h : k < 20) : ((r5 (ak (k + 4)) + bits .or .u32 (bits .and .u32 (ak (k + 3)) (r30 (ak (k + 2)))) (bits .and .u32 (bits .xor .u32 (if IntKind.u32.signed = true then -1 else IntKind.u32.max) (ak (k + 3))) (r30 (ak (k + 1)))) + r30 (ak k) + wk k) % 4294967296 + 1518500249) % 4294967296 = ak (k + 5) := by
  have : ∀ k : Nat, k < 20 → 0 ≤ k → ((r5 (ak (k + 4)) + bits .or .u32 (bits .and .u32 (ak (k + 3)) (r30 (ak (k + 2)))) (bits .and .u32 (bits .xor .u32 (if IntKind.u32.signed = true then -1 else IntKind.u32.max) (ak (k + 3))) (r30 (ak (k + 1)))) + r30 (ak k) + wk k) % 4294967296 + 1518500249) % 4294967296 = ak (k + 5) := by decide +kernel
  exact this k h h0
theorem turn2 (k : Nat) (h0 : 20 ≤ k) (h : k < 40) : ((r5 (ak (k + 4)) + bits .xor .u32 (bits .xor .u32 (ak (k + 3)) (r30 (ak (k + 2)))) (r30 (ak (k + 1))) + r30 (ak k) + wk k) % 4294967296 + 1859775393) % 4294967296 = ak (k + 5) := by
  have : ∀ k : Nat, k < 40 → 20 ≤ k → ((r5 (ak (k + 4)) + bits .xor .u32 (bits .xor .u32 (ak (k + 3)) (r30 (ak (k + 2)))) (r30 (ak (k + 1))) + r30 (ak k) + wk k) % 4294967296 + 1859775393) % 4294967296 = ak (k + 5) := by decide +kernel
  exact this k h h0
theorem turn3 (k : Nat) (h0 : 40 ≤ k) (h : k < 60) : ((r5 (ak (k + 4)) + bits .or .u32 (bits .and .u32 (bits .or .u32 (ak (k + 3)) (r30 (ak (k + 2)))) (r30 (ak (k + 1)))) (bits .and .u32 (ak (k + 3)) (r30 (ak (k + 2)))) + r30 (ak k) + wk k) % 4294967296 + 2400959708) % 4294967296 = ak (k + 5) := by
  have : ∀ k : Nat, k < 60 → 40 ≤ k → ((r5 (ak (k + 4)) + bits .or .u32 (bits .and .u32 (bits .or .u32 (ak (k + 3)) (r30 (ak (k + 2)))) (r30 (ak (k + 1)))) (bits .and .u32 (ak (k + 3)) (r30 (ak (k + 2)))) + r30 (ak k) + wk k) % 4294967296 + 2400959708) % 4294967296 = ak (k + 5) := by decide +kernel
  exact this k h h0
theorem turn4 (k : Nat) (h0 : 60 ≤ k) (h : k < 80) : ((r5 (ak (k + 4)) + bits .xor .u32 (bits .xor .u32 (ak (k + 3)) (r30 (ak (k + 2)))) (r30 (ak (k + 1))) + r30 (ak k) + wk k) % 4294967296 + 3395469782) % 4294967296 = ak (k + 5) := by
  have : ∀ k : Nat, k < 80 → 60 ≤ k → ((r5 (ak (k + 4)) + bits .xor .u32 (bits .xor .u32 (ak (k + 3)) (r30 (ak (k + 2)))) (r30 (ak (k + 1))) + r30 (ak k) + wk k) % 4294967296 + 3395469782) % 4294967296 = ak (k + 5) := by decide +kernel
  exact this k h h0
theorem next (k : Nat) (h0 : 16 ≤ k) (h : k < 80) : r1 (bits .xor .u32 (bits .xor .u32 (bits .xor .u32 (wk (k - 3)) (wk (k - 8))) (wk (k - 14))) (wk (k - 16))) = wk k := by
  have : ∀ k : Nat, k < 80 → 16 ≤ k → r1 (bits .xor .u32 (bits .xor .u32 (bits .xor .u32 (wk (k - 3)) (wk (k - 8))) (wk (k - 14))) (wk (k - 16))) = wk k := by decide +kernel
  exact this k h h0
theorem Ring.back {w : World} {b k : Nat} (h : Ring w b k) (h0 : 16 ≤ k) (hk : k ≤ 80) (d : Nat) (hd0 : 1 ≤ d) (hd : d ≤ 16) : w.cell? ⟨b, (k - d) % 16, none⟩ = some (.int .u32 (wk (k - d))) := by
  have h1 := (h ((k - d) % 16) (Nat.mod_lt _ (by decide))).1
  unfold ring at h1
  rw [if_neg (by omega), show k - 1 - (k + 15 - (k - d) % 16) % 16 = k - d by omega] at h1
  exact h1
theorem Ring.lo {w : World} {b k : Nat} (h : Ring w b 16) (hk : k < 16) : w.cell? ⟨b, k, none⟩ = some (.int .u32 (wk k)) := by
  have h1 := (h k hk).1
  unfold ring at h1
  rw [if_neg (by omega), show 16 - 1 - (16 + 15 - k) % 16 = k by omega] at h1
  exact h1

def hash5 (L : List Value) : List Value := ((((L.set 0 (.int .u32 (outk 0))).set 1 (.int .u32 (outk 1))).set 2 (.int .u32 (outk 2))).set 3 (.int .u32 (outk 3))).set 4 (.int .u32 (outk 4))
def BlockPost (d : Nat) (T : TypeId) (L : List Value) (w : World) (e : Ending) (w' : World) : Prop :=
  e = .returned (.tuple #[]) ∧ w'.heap[d]? = some (.cells (hash5 L).toArray T (0, 0)) ∧ w.grownBy w' (some d)
theorem row_set {w : World} {g i : Nat} {L : List Value} {T : TypeId} {m : Nat × Nat} (h : w.heap[g]? = some (.cells L.toArray T m)) (v : Value) : (w.setCell ⟨g, i, none⟩ v).heap[g]? = some (.cells (L.set i v).toArray T m) := by
  simp [World.setCell, Array.getElem?_modify, h]
theorem row_cell {w : World} {g i : Nat} {L : List Value} {T : TypeId} {m : Nat × Nat} (h : w.heap[g]? = some (.cells L.toArray T m)) (hi : i < L.length) : ∃ v, w.cell? ⟨g, i, none⟩ = some v :=
  ⟨L[i], by rw [Lib.cell_of_heap h]; simp [hi]⟩
theorem grownBy_set' {w w' : World} {b : Nat} (h : w.grownBy w' (some b)) (i : Nat) (v : Value) : w.grownBy (w'.setCell ⟨b, i, none⟩ v) (some b) :=
  ⟨h.os, h.tape, h.output, by simpa [World.setCell] using h.size, fun k hk hne => (Below.heap_setCell _ _ _ _ (by intro e; exact hne (by rw [e]))).trans (h.block k hk hne)⟩
theorem grownBy_below {w w' : World} {b : Nat} (h : Below w.heap.size w w') : w.grownBy w' (some b) := ⟨h.os, h.tape, h.output, h.size, fun k hk _ => h.block k hk⟩

def BlockEnd (d : Nat) (T : TypeId) (L : List Value) (w w' : World) : Prop := w'.heap[d]? = some (.cells (hash5 L).toArray T (0, 0)) ∧ w.grownBy w' (some d)
theorem drew_heapB (w : World) : w.drew.heap = w.heap := rfl
theorem grownBy_drewB {w w1 : World} {b : Nat} (h : w.grownBy w1 (some b)) : w.grownBy w1.drew (some b) := ⟨h.os, h.tape, h.output, h.size, h.block⟩
theorem blockEnd' {d : Nat} {T : TypeId} {L : List Value} {w w0 : World} (hg : w.grownBy w0 (some d)) (hl : w0.heap[d]? = some (.cells L.toArray T (0, 0))) (a b c e f : Value) :
    (((((w0.setCell ⟨d, 0, none⟩ a).setCell ⟨d, 1, none⟩ b).setCell ⟨d, 2, none⟩ c).setCell ⟨d, 3, none⟩ e).setCell ⟨d, 4, none⟩ f).drew.heap[d]? = some (.cells (((((L.set 0 a).set 1 b).set 2 c).set 3 e).set 4 f).toArray T (0, 0)) ∧
      w.grownBy (((((w0.setCell ⟨d, 0, none⟩ a).setCell ⟨d, 1, none⟩ b).setCell ⟨d, 2, none⟩ c).setCell ⟨d, 3, none⟩ e).setCell ⟨d, 4, none⟩ f).drew (some d) := by
  have h1 := row_set (i := 4) (row_set (i := 3) (row_set (i := 2) (row_set (i := 1) (row_set (i := 0) hl a) b) c) e) f
  have h2 := grownBy_set' (grownBy_set' (grownBy_set' (grownBy_set' (grownBy_set' hg 0 a) 1 b) 2 c) 3 e) 4 f
  refine ⟨?_, grownBy_drewB h2⟩
  rw [drew_heapB]
  exact h1
theorem blockEnd {d : Nat} {T : TypeId} {L : List Value} {w w0 : World} (hg : w.grownBy w0 (some d)) (hl : w0.heap[d]? = some (.cells L.toArray T (0, 0))) :
    BlockEnd d T L w (((((w0.setCell ⟨d, 0, none⟩ (.int .u32 (outk 0))).setCell ⟨d, 1, none⟩ (.int .u32 (outk 1))).setCell ⟨d, 2, none⟩ (.int .u32 (outk 2))).setCell ⟨d, 3, none⟩ (.int .u32 (outk 3))).setCell ⟨d, 4, none⟩ (.int .u32 (outk 4))).drew := by
  unfold BlockEnd hash5
  exact blockEnd' hg hl _ _ _ _ _

set_option maxRecDepth 100000 in
set_option maxHeartbeats 4000000 in
theorem block_any (d p po : Nat) (hpd : p = d) (T : TypeId) (L : List Value) (w : World) (hd : d < w.heap.size) (hL : w.heap[d]? = some (.cells L.toArray T (0, 0))) (hh5 : ∀ i, i < 5 → L[i]? = some (.int .u32 (h0k i))) (hb64 : ∀ i, i < 64 → L[po + i]? = some (.int .u8 (bk i))) (hpo : po ≤ 1000) :
    Calls Tryf.prog 60 #[.pointer (some ⟨d, 0, none⟩), .slice (some ⟨p, po, none⟩) 64 64] w (BlockPost d T L w) := by
  have HLW := Lib.hid hL
  have hp : p < w.heap.size := by omega
  have hh : ∀ i, i < 5 → w.cell? ⟨d, i, none⟩ = some (.int .u32 (h0k i)) ∧ w.frozen? ⟨d, i, none⟩ = false := fun i hi => ⟨by rw [Lib.cell_of_heap hL, ← hh5 i hi]; simp, Lib.frozen_of_heap hL i⟩
  have hb : ∀ i, i < 64 → w.cell? ⟨p, po + i, none⟩ = some (.int .u8 (bk i)) := fun i hi => by rw [hpd, Lib.cell_of_heap hL, ← hb64 i hi]; simp
  have HLEN0 : Hid (5 ≤ L.length) := Lib.hid (by have h := hh5 4 (by decide); have := (List.getElem?_eq_some_iff.mp h).1; omega)
  clear hL hh5 hb64 hpd
  have c0 := (hh 0 (by decide)).1; have c1 := (hh 1 (by decide)).1; have c2 := (hh 2 (by decide)).1; have c3 := (hh 3 (by decide)).1; have c4 := (hh 4 (by decide)).1
  have HH := Lib.hid hh; have HBK := Lib.hid hb
  clear hh hb
  go_enter Tryf.func60, Tryf.ntmps60
  go_upto_region 1 with (fail)
  generalize hW : w.alloc _ = W
  have HW := Lib.hid hW
  have hRing : Ring W w.heap.size 0 := fun j hj => by
    subst hW
    have e : j = 0 ∨ j = 1 ∨ j = 2 ∨ j = 3 ∨ j = 4 ∨ j = 5 ∨ j = 6 ∨ j = 7 ∨ j = 8 ∨ j = 9 ∨ j = 10 ∨ j = 11 ∨ j = 12 ∨ j = 13 ∨ j = 14 ∨ j = 15 := by omega
    refine ⟨?_, ?_⟩
    · rcases e with rfl | rfl | rfl | rfl | rfl | rfl | rfl | rfl | rfl | rfl | rfl | rfl | rfl | rfl | rfl | rfl <;> exact World.cell?_alloc_mark w _ _ (0, 0) _
    · exact World.frozen?_alloc_new _ _ _ _
  have hBW : Below w.heap.size w W := by subst hW; exact (Below.refl _ _).alloc (Nat.le_refl _) _
  have hWs : W.heap.size = w.heap.size + 1 := by subst hW; simp
  clear hW
  have HR := Lib.hid hRing; have HB := Lib.hid hBW; have HS := Lib.hid hWs
  clear hRing hBW hWs
  have HH2 : Hid (∀ i, i < 5 → W.cell? ⟨d, i, none⟩ = some (.int .u32 (h0k i)) ∧ W.frozen? ⟨d, i, none⟩ = false) := Lib.hid fun i hi => by
    refine ⟨(HB.out.cell (p := ⟨d, i, none⟩) hd).trans (HH.out i hi).1, ?_⟩
    have := (HH.out i hi).2
    unfold World.frozen? at this ⊢
    rw [HB.out.block d hd]; exact this
  have HBK2 : Hid (∀ i, i < 64 → W.cell? ⟨p, po + i, none⟩ = some (.int .u8 (bk i))) := Lib.hid fun i hi => (HB.out.cell (p := ⟨p, po + i, none⟩) hp).trans (HBK.out i hi)
  clear c0 c1 c2 c3 c4 HH HBK
  have c0 := (HH2.out 0 (by decide)).1; have c1 := (HH2.out 1 (by decide)).1; have c2 := (HH2.out 2 (by decide)).1; have c3 := (HH2.out 3 (by decide)).1; have c4 := (HH2.out 4 (by decide)).1
  go_quiet (fail)
  have HR2 : Hid (Ring (W.drewN nq) w.heap.size 0) := Lib.hid (HR.out.below (B := W.heap.size) (below_drewN (Below.refl _ _) _) (by rw [HS.out]; omega))
  have HB2 : Hid (Below w.heap.size w (W.drewN nq)) := Lib.hid (below_drewN HB.out _)
  have HS2 : Hid ((W.drewN nq).heap.size = w.heap.size + 1) := Lib.hid HS.out
  have HB3 : Hid (Below W.heap.size W (W.drewN nq)) := Lib.hid (below_drewN (Below.refl _ _) _)
  clear c0 c1 c2 c3 c4
  generalize W.drewN nq = W1 at HR2 HB2 HS2 HB3 ⊢
  go_wp2
  refine wp_loop_rounds 2 ?_
  rw [rounds_succ]
  go_wp2
  go_loopw [10, 11] (fun i j wr => ∃ k : Nat, k ≤ 16 ∧ i = .int .i64 k ∧ Ring wr w.heap.size k ∧ Below w.heap.size w wr ∧ wr.heap.size = w.heap.size + 1) (fun i _ _ => 16 - (intOf i).toNat)
  case atStart => exact ⟨0, by omega, rfl, HR2.out, HB2.out, HS2.out⟩
  case round =>
    obtain ⟨k, hk, rfl, hr, hbw, hsw⟩ := hrel
    have HR4 := Lib.hid hr; have HB4 := Lib.hid hbw; have HS4 := Lib.hid hsw
    clear hr hbw hsw
    by_cases hlt : k < 16
    · have hlti : (k : Int) < 16 := by omega
      obtain ⟨q, hq⟩ : ∃ q : Nat, q = 4 * k := ⟨_, rfl⟩
      have e1 : (k : Int) * 4 = (q : Int) := by omega
      have hq60 : q ≤ 60 := by omega
      have hbyte : ∀ t, t < 64 → wr.cell? ⟨p, po + t, none⟩ = some (.int .u8 (bk t)) := fun t ht => (HB4.out.cell (p := ⟨p, po + t, none⟩) hp).trans ((HB.out.cell (p := ⟨p, po + t, none⟩) hp).symm.trans (HBK2.out t ht))
      have p0 := hbyte q (by omega)
      have p1 := hbyte (q + 1) (by omega)
      have p2 := hbyte (q + 2) (by omega)
      have p3 := hbyte (q + 3) (by omega)
      have f1 := (HR4.out k hlt).1
      have f2 := (HR4.out k hlt).2
      have HQ := Lib.hid hq
      clear hbyte hq
      go_upto_region 7 with (fail)
      have w1 : IntKind.i64.wrap ((q : Int) + 1) = (q : Int) + 1 := IntWalk.i64_in _ (by omega)
      have w2 : IntKind.i64.wrap ((q : Int) + 2) = (q : Int) + 2 := IntWalk.i64_in _ (by omega)
      have w3 : IntKind.i64.wrap ((q : Int) + 3) = (q : Int) + 3 := IntWalk.i64_in _ (by omega)
      have t1 : ((q : Int) + 1).toNat = q + 1 := by omega
      have t2 : ((q : Int) + 2).toNat = q + 2 := by omega
      have t3 : ((q : Int) + 3).toNat = q + 3 := by omega
      have i0 : (0 : Int) ≤ q := by omega
      have i1 : (q : Int) < 64 := by omega
      have i2 : (0 : Int) ≤ (q : Int) + 1 := by omega
      have i3 : (q : Int) + 1 < 64 := by omega
      have i4 : (0 : Int) ≤ (q : Int) + 2 := by omega
      have i5 : (q : Int) + 2 < 64 := by omega
      have i6 : (0 : Int) ≤ (q : Int) + 3 := by omega
      have i7 : (q : Int) + 3 < 64 := by omega
      have i8 : (0 : Int) ≤ (k : Int) := by omega
      go_still_tail 31, (by kernel_rfl)
      change wpList _ _ _ _ _ wr.drew
      clear w1 w2 w3 t1 t2 t3 i0 i1 i2 i3 i4 i5 i6 i7 p0 p1 p2 p3 f1 f2
      have HR5 : Hid (Ring wr.drew w.heap.size k) := Lib.hid (HR4.out.below (B := wr.heap.size) (Below.refl _ _).drew (by rw [HS4.out]; omega))
      have HB5 : Hid (Below w.heap.size w wr.drew) := Lib.hid HB4.out.drew
      have HS5 : Hid (wr.drew.heap.size = w.heap.size + 1) := Lib.hid HS4.out
      generalize wr.drew = wd at HR5 HB5 HS5 ⊢
      have f1 := (HR5.out k hlt).1
      have f2 := (HR5.out k hlt).2
      go_wp2
      go_roundw
      case rel =>
        refine ⟨k + 1, by omega, by go_num, ?_, HB5.out.setCell (Nat.le_refl _) _, by rw [World.size_setCell]; exact HS5.out⟩
        have := HR5.out.store (by omega) (by rw [HS5.out]; omega)
        rw [Nat.mod_eq_of_lt hlt, ← wk_lo k hlt, ← HQ.out] at this
        exact this
      case measure => simp [intOf] <;> omega
    · have hlti : (16 : Int) ≤ k := by omega
      have HR6 : Hid (Ring wr w.heap.size 16) := Lib.hid (by have h := HR4.out; rwa [show k = 16 by omega] at h)
      go_wp2
      clear hlt hlti hk
      go_loopw [12, 13, 14, 15, 16, 17, 18, 19] (fun a b c d e i f t wr => ∃ k : Nat, k ≤ 16 ∧ a = .int .u32 (ak (k + 4)) ∧ b = .int .u32 (ak (k + 3)) ∧ c = .int .u32 (r30 (ak (k + 2))) ∧ d = .int .u32 (r30 (ak (k + 1))) ∧ e = .int .u32 (r30 (ak k)) ∧ i = .int .i64 k ∧ Ring wr w.heap.size 16 ∧ Below w.heap.size w wr ∧ wr.heap.size = w.heap.size + 1) (fun _ _ _ _ _ i _ _ _ => 16 - (intOf i).toNat)
      case atStart => exact ⟨0, by omega, rfl, rfl, rfl, rfl, rfl, rfl, HR6.out, HB4.out, HS4.out⟩
      case round =>
        obtain ⟨k, hk, rfl, rfl, rfl, rfl, rfl, rfl, hr, hbw, hsw⟩ := hrel
        clear HR4 HR6 HB4 HS4
        have HR4 := Lib.hid hr; have HB4 := Lib.hid hbw; have HS4 := Lib.hid hsw
        clear hr hbw hsw
        by_cases hlt : k < 16
        · have hlti : (k : Int) < 16 := by omega
          go_upto_region 13 with (fail)
          have e1 : bits .and .i64 (k : Int) 15 = (k : Int) := by rw [and15 k (by omega), Nat.mod_eq_of_lt hlt]
          have f1 := HR4.out.lo hlt
          have i0 : (0 : Int) ≤ k := by omega
          have hT := Lib.hid (turn1 k (Nat.zero_le _) (by omega))
          go_quiet ((go_at_call 66; exact Calls.quiet_of_same (rot5_any _ _)))
          rw [hT.out]
          clear e1 f1 i0
          have HR5 : Hid (Ring (wr.drewN nq) w.heap.size 16) := Lib.hid (HR4.out.below (B := wr.heap.size) (below_drewN (Below.refl _ _) _) (by rw [HS4.out]; omega))
          have HB5 : Hid (Below w.heap.size w (wr.drewN nq)) := Lib.hid (below_drewN HB4.out _)
          have HS5 : Hid ((wr.drewN nq).heap.size = w.heap.size + 1) := Lib.hid HS4.out
          generalize wr.drewN nq = wd at HR5 HB5 HS5 ⊢
          go_wp2_with fail
          with_reducible refine (rot30_any _ _).mono ?_
          rintro e w' ⟨rfl, rfl⟩
          go_wp2
          go_roundw
          case rel =>
            exact ⟨k + 1, by omega, rfl, rfl, rfl, rfl, rfl, by go_num, HR5.out, HB5.out, HS5.out⟩
          case measure => simp [intOf] <;> omega
        · have hlti : (16 : Int) ≤ k := by omega
          have HR6 : Hid (Ring wr w.heap.size 16) := HR4
          have HA6 : Hid (∀ j, ak (k + j) = ak (16 + j)) := Lib.hid (fun j => by rw [show k = 16 by omega])
          go_wp2
          clear HR4
          have hkk : Hid (k = 16) := Lib.hid (by omega)
          clear hlt hlti hk
          go_loopw [12, 13, 14, 15, 16, 17, 20, 21, 22] (fun a b c d e i x f t wr => ∃ k : Nat, 16 ≤ k ∧ k ≤ 20 ∧ a = .int .u32 (ak (k + 4)) ∧ b = .int .u32 (ak (k + 3)) ∧ c = .int .u32 (r30 (ak (k + 2))) ∧ d = .int .u32 (r30 (ak (k + 1))) ∧ e = .int .u32 (r30 (ak k)) ∧ i = .int .i64 k ∧ Ring wr w.heap.size k ∧ Below w.heap.size w wr ∧ wr.heap.size = w.heap.size + 1) (fun _ _ _ _ _ i _ _ _ _ => 20 - (intOf i).toNat)
          case atStart => exact ⟨k, by rw [hkk.out]; omega, by rw [hkk.out]; omega, rfl, rfl, rfl, rfl, rfl, rfl, by rw [hkk.out]; exact HR6.out, HB4.out, HS4.out⟩
          case round =>
            clear hkk HA6
            obtain ⟨k, hk0, hk, rfl, rfl, rfl, rfl, rfl, rfl, hr, hbw, hsw⟩ := hrel
            clear HR6 HB4 HS4
            have HR4 := Lib.hid hr; have HB4 := Lib.hid hbw; have HS4 := Lib.hid hsw
            clear hr hbw hsw
            by_cases hlt : k < 20
            · have hlti : (k : Int) < 20 := by omega
              go_upto_region 17 with (fail)
              obtain ⟨j3, hj3⟩ : ∃ j, j = (k - 3) % 16 := ⟨_, rfl⟩
              obtain ⟨j8, hj8⟩ : ∃ j, j = (k - 8) % 16 := ⟨_, rfl⟩
              obtain ⟨j14, hj14⟩ : ∃ j, j = (k - 14) % 16 := ⟨_, rfl⟩
              obtain ⟨j0, hj0⟩ : ∃ j, j = k % 16 := ⟨_, rfl⟩
              have e3 : bits .and .i64 ((k : Int) - 3) 15 = (j3 : Int) := by rw [show (k : Int) - 3 = ((k - 3 : Nat) : Int) by omega, and15 _ (by omega), hj3]
              have e8 : bits .and .i64 ((k : Int) - 8) 15 = (j8 : Int) := by rw [show (k : Int) - 8 = ((k - 8 : Nat) : Int) by omega, and15 _ (by omega), hj8]
              have e14 : bits .and .i64 ((k : Int) - 14) 15 = (j14 : Int) := by rw [show (k : Int) - 14 = ((k - 14 : Nat) : Int) by omega, and15 _ (by omega), hj14]
              have e0 : bits .and .i64 (k : Int) 15 = (j0 : Int) := by rw [and15 _ (by omega), hj0]
              have f3 : wr.cell? ⟨w.heap.size, j3, none⟩ = some (.int .u32 (wk (k - 3))) := by rw [hj3]; exact HR4.out.back (by omega) (by omega) 3 (by omega) (by omega)
              have f8 : wr.cell? ⟨w.heap.size, j8, none⟩ = some (.int .u32 (wk (k - 8))) := by rw [hj8]; exact HR4.out.back (by omega) (by omega) 8 (by omega) (by omega)
              have f14 : wr.cell? ⟨w.heap.size, j14, none⟩ = some (.int .u32 (wk (k - 14))) := by rw [hj14]; exact HR4.out.back (by omega) (by omega) 14 (by omega) (by omega)
              have f0 : wr.cell? ⟨w.heap.size, j0, none⟩ = some (.int .u32 (wk (k - 16))) := by rw [hj0, show k % 16 = (k - 16) % 16 by omega]; exact HR4.out.back (by omega) (by omega) 16 (by omega) (by omega)
              have b3 : (j3 : Int) < 16 := by omega
              have b8 : (j8 : Int) < 16 := by omega
              have b14 : (j14 : Int) < 16 := by omega
              have b0 : (j0 : Int) < 16 := by omega
              have w3 : IntKind.i64.wrap ((k : Int) - 3) = (k : Int) - 3 := IntWalk.i64_in _ (by omega)
              have w8 : IntKind.i64.wrap ((k : Int) - 8) = (k : Int) - 8 := IntWalk.i64_in _ (by omega)
              have w14 : IntKind.i64.wrap ((k : Int) - 14) = (k : Int) - 14 := IntWalk.i64_in _ (by omega)
              have HJ0 := Lib.hid hj0
              have hN := Lib.hid (next k (by omega) (by omega))
              have hT := Lib.hid (turn1 k (by omega) (by omega))
              clear hj3 hj8 hj14 hj0
              have i3 : (0 : Int) ≤ j3 := by omega
              have i8 : (0 : Int) ≤ j8 := by omega
              have i14 : (0 : Int) ≤ j14 := by omega
              have i0 : (0 : Int) ≤ j0 := by omega
              go_quiet (fail)
              clear e3 e8 e14 f3 f8 f14 f0 b3 b8 b14 w3 w8 w14 i3 i8 i14
              have HR5 : Hid (Ring (wr.drewN nq) w.heap.size k) := Lib.hid (HR4.out.below (B := wr.heap.size) (below_drewN (Below.refl _ _) _) (by rw [HS4.out]; omega))
              have HB5 : Hid (Below w.heap.size w (wr.drewN nq)) := Lib.hid (below_drewN HB4.out _)
              have HS5 : Hid ((wr.drewN nq).heap.size = w.heap.size + 1) := Lib.hid HS4.out
              generalize wr.drewN nq = wd at HR5 HB5 HS5 ⊢
              have g0 : ∃ v, wd.cell? ⟨w.heap.size, j0, none⟩ = some v := ⟨_, by rw [HJ0.out]; exact (HR5.out (k % 16) (by omega)).1⟩
              obtain ⟨v0, g0⟩ := g0
              have g1 : wd.frozen? ⟨w.heap.size, j0, none⟩ = false := by rw [HJ0.out]; exact (HR5.out (k % 16) (by omega)).2
              go_wp2_with fail
              with_reducible refine (rot1_any _ _).mono ?_
              rintro e w' ⟨rfl, rfl⟩
              rw [hN.out]
              go_upto_region 20 with (fail)
              clear g0 g1
              have HR7 : Hid (Ring (w'.setCell ⟨w.heap.size, j0, none⟩ (.int .u32 (wk k))) w.heap.size (k + 1)) := Lib.hid (by rw [HJ0.out]; exact HR5.out.store (by omega) (by rw [HS5.out]; omega))
              have HB7 : Hid (Below w.heap.size w (w'.setCell ⟨w.heap.size, j0, none⟩ (.int .u32 (wk k)))) := Lib.hid (HB5.out.setCell (Nat.le_refl _) _)
              have HS7 : Hid ((w'.setCell ⟨w.heap.size, j0, none⟩ (.int .u32 (wk k))).heap.size = w.heap.size + 1) := Lib.hid (by rw [World.size_setCell]; exact HS5.out)
              generalize w'.setCell ⟨w.heap.size, j0, none⟩ (.int .u32 (wk k)) = ws at HR7 HB7 HS7 ⊢
              have f0 : ws.cell? ⟨w.heap.size, j0, none⟩ = some (.int .u32 (wk k)) := by rw [HJ0.out]; exact HR7.out.back (by omega) (by omega) 1 (by omega) (by omega)
              go_quiet ((go_at_call 66; exact Calls.quiet_of_same (rot5_any _ _)))
              rw [hT.out]
              clear e0 f0 b0 i0
              have HR8 : Hid (Ring (ws.drewN nq) w.heap.size (k + 1)) := Lib.hid (HR7.out.below (B := ws.heap.size) (below_drewN (Below.refl _ _) _) (by rw [HS7.out]; omega))
              have HB8 : Hid (Below w.heap.size w (ws.drewN nq)) := Lib.hid (below_drewN HB7.out _)
              have HS8 : Hid ((ws.drewN nq).heap.size = w.heap.size + 1) := Lib.hid HS7.out
              generalize ws.drewN nq = wz at HR8 HB8 HS8 ⊢
              go_wp2_with fail
              with_reducible refine (rot30_any _ _).mono ?_
              rintro e w' ⟨rfl, rfl⟩
              go_wp2
              go_roundw
              case rel => exact ⟨k + 1, by omega, by omega, rfl, rfl, rfl, rfl, rfl, by go_num, HR8.out, HB8.out, HS8.out⟩
              case measure => simp [intOf] <;> omega
            · have hlti : (20 : Int) ≤ k := by omega
              have HR6 : Hid (Ring wr w.heap.size 20) := Lib.hid (by have h := HR4.out; rwa [show k = 20 by omega] at h)
              have HA6 : Hid (∀ j, ak (k + j) = ak (20 + j)) := Lib.hid (fun j => by rw [show k = 20 by omega])
              go_wp2
              clear HR4
              have hkk : Hid (k = 20) := Lib.hid (by omega)
              clear hlt hlti hk
              go_loopw [12, 13, 14, 15, 16, 17, 23, 24, 25] (fun a b c d e i x f t wr => ∃ k : Nat, 20 ≤ k ∧ k ≤ 40 ∧ a = .int .u32 (ak (k + 4)) ∧ b = .int .u32 (ak (k + 3)) ∧ c = .int .u32 (r30 (ak (k + 2))) ∧ d = .int .u32 (r30 (ak (k + 1))) ∧ e = .int .u32 (r30 (ak k)) ∧ i = .int .i64 k ∧ Ring wr w.heap.size k ∧ Below w.heap.size w wr ∧ wr.heap.size = w.heap.size + 1) (fun _ _ _ _ _ i _ _ _ _ => 40 - (intOf i).toNat)
              case atStart => exact ⟨k, by rw [hkk.out]; omega, by rw [hkk.out]; omega, rfl, rfl, rfl, rfl, rfl, rfl, by rw [hkk.out]; exact HR6.out, HB4.out, HS4.out⟩
              case round =>
                clear hkk HA6
                obtain ⟨k, hk0, hk, rfl, rfl, rfl, rfl, rfl, rfl, hr, hbw, hsw⟩ := hrel
                clear HR6 HB4 HS4
                have HR4 := Lib.hid hr; have HB4 := Lib.hid hbw; have HS4 := Lib.hid hsw
                clear hr hbw hsw
                by_cases hlt : k < 40
                · have hlti : (k : Int) < 40 := by omega
                  go_upto_region 24 with (fail)
                  obtain ⟨j3, hj3⟩ : ∃ j, j = (k - 3) % 16 := ⟨_, rfl⟩
                  obtain ⟨j8, hj8⟩ : ∃ j, j = (k - 8) % 16 := ⟨_, rfl⟩
                  obtain ⟨j14, hj14⟩ : ∃ j, j = (k - 14) % 16 := ⟨_, rfl⟩
                  obtain ⟨j0, hj0⟩ : ∃ j, j = k % 16 := ⟨_, rfl⟩
                  have e3 : bits .and .i64 ((k : Int) - 3) 15 = (j3 : Int) := by rw [show (k : Int) - 3 = ((k - 3 : Nat) : Int) by omega, and15 _ (by omega), hj3]
                  have e8 : bits .and .i64 ((k : Int) - 8) 15 = (j8 : Int) := by rw [show (k : Int) - 8 = ((k - 8 : Nat) : Int) by omega, and15 _ (by omega), hj8]
                  have e14 : bits .and .i64 ((k : Int) - 14) 15 = (j14 : Int) := by rw [show (k : Int) - 14 = ((k - 14 : Nat) : Int) by omega, and15 _ (by omega), hj14]
                  have e0 : bits .and .i64 (k : Int) 15 = (j0 : Int) := by rw [and15 _ (by omega), hj0]
                  have f3 : wr.cell? ⟨w.heap.size, j3, none⟩ = some (.int .u32 (wk (k - 3))) := by rw [hj3]; exact HR4.out.back (by omega) (by omega) 3 (by omega) (by omega)
                  have f8 : wr.cell? ⟨w.heap.size, j8, none⟩ = some (.int .u32 (wk (k - 8))) := by rw [hj8]; exact HR4.out.back (by omega) (by omega) 8 (by omega) (by omega)
                  have f14 : wr.cell? ⟨w.heap.size, j14, none⟩ = some (.int .u32 (wk (k - 14))) := by rw [hj14]; exact HR4.out.back (by omega) (by omega) 14 (by omega) (by omega)
                  have f0 : wr.cell? ⟨w.heap.size, j0, none⟩ = some (.int .u32 (wk (k - 16))) := by rw [hj0, show k % 16 = (k - 16) % 16 by omega]; exact HR4.out.back (by omega) (by omega) 16 (by omega) (by omega)
                  have b3 : (j3 : Int) < 16 := by omega
                  have b8 : (j8 : Int) < 16 := by omega
                  have b14 : (j14 : Int) < 16 := by omega
                  have b0 : (j0 : Int) < 16 := by omega
                  have w3 : IntKind.i64.wrap ((k : Int) - 3) = (k : Int) - 3 := IntWalk.i64_in _ (by omega)
                  have w8 : IntKind.i64.wrap ((k : Int) - 8) = (k : Int) - 8 := IntWalk.i64_in _ (by omega)
                  have w14 : IntKind.i64.wrap ((k : Int) - 14) = (k : Int) - 14 := IntWalk.i64_in _ (by omega)
                  have HJ0 := Lib.hid hj0
                  have hN := Lib.hid (next k (by omega) (by omega))
                  have hT := Lib.hid (turn2 k (by omega) (by omega))
                  clear hj3 hj8 hj14 hj0
                  have i3 : (0 : Int) ≤ j3 := by omega
                  have i8 : (0 : Int) ≤ j8 := by omega
                  have i14 : (0 : Int) ≤ j14 := by omega
                  have i0 : (0 : Int) ≤ j0 := by omega
                  go_quiet (fail)
                  clear e3 e8 e14 f3 f8 f14 f0 b3 b8 b14 w3 w8 w14 i3 i8 i14
                  have HR5 : Hid (Ring (wr.drewN nq) w.heap.size k) := Lib.hid (HR4.out.below (B := wr.heap.size) (below_drewN (Below.refl _ _) _) (by rw [HS4.out]; omega))
                  have HB5 : Hid (Below w.heap.size w (wr.drewN nq)) := Lib.hid (below_drewN HB4.out _)
                  have HS5 : Hid ((wr.drewN nq).heap.size = w.heap.size + 1) := Lib.hid HS4.out
                  generalize wr.drewN nq = wd at HR5 HB5 HS5 ⊢
                  have g0 : ∃ v, wd.cell? ⟨w.heap.size, j0, none⟩ = some v := ⟨_, by rw [HJ0.out]; exact (HR5.out (k % 16) (by omega)).1⟩
                  obtain ⟨v0, g0⟩ := g0
                  have g1 : wd.frozen? ⟨w.heap.size, j0, none⟩ = false := by rw [HJ0.out]; exact (HR5.out (k % 16) (by omega)).2
                  go_wp2_with fail
                  with_reducible refine (rot1_any _ _).mono ?_
                  rintro e w' ⟨rfl, rfl⟩
                  rw [hN.out]
                  go_upto_region 27 with (fail)
                  clear g0 g1
                  have HR7 : Hid (Ring (w'.setCell ⟨w.heap.size, j0, none⟩ (.int .u32 (wk k))) w.heap.size (k + 1)) := Lib.hid (by rw [HJ0.out]; exact HR5.out.store (by omega) (by rw [HS5.out]; omega))
                  have HB7 : Hid (Below w.heap.size w (w'.setCell ⟨w.heap.size, j0, none⟩ (.int .u32 (wk k)))) := Lib.hid (HB5.out.setCell (Nat.le_refl _) _)
                  have HS7 : Hid ((w'.setCell ⟨w.heap.size, j0, none⟩ (.int .u32 (wk k))).heap.size = w.heap.size + 1) := Lib.hid (by rw [World.size_setCell]; exact HS5.out)
                  generalize w'.setCell ⟨w.heap.size, j0, none⟩ (.int .u32 (wk k)) = ws at HR7 HB7 HS7 ⊢
                  have f0 : ws.cell? ⟨w.heap.size, j0, none⟩ = some (.int .u32 (wk k)) := by rw [HJ0.out]; exact HR7.out.back (by omega) (by omega) 1 (by omega) (by omega)
                  go_quiet ((go_at_call 66; exact Calls.quiet_of_same (rot5_any _ _)))
                  rw [hT.out]
                  clear e0 f0 b0 i0
                  have HR8 : Hid (Ring (ws.drewN nq) w.heap.size (k + 1)) := Lib.hid (HR7.out.below (B := ws.heap.size) (below_drewN (Below.refl _ _) _) (by rw [HS7.out]; omega))
                  have HB8 : Hid (Below w.heap.size w (ws.drewN nq)) := Lib.hid (below_drewN HB7.out _)
                  have HS8 : Hid ((ws.drewN nq).heap.size = w.heap.size + 1) := Lib.hid HS7.out
                  generalize ws.drewN nq = wz at HR8 HB8 HS8 ⊢
                  go_wp2_with fail
                  with_reducible refine (rot30_any _ _).mono ?_
                  rintro e w' ⟨rfl, rfl⟩
                  go_wp2
                  go_roundw
                  case rel => exact ⟨k + 1, by omega, by omega, rfl, rfl, rfl, rfl, rfl, by go_num, HR8.out, HB8.out, HS8.out⟩
                  case measure => simp [intOf] <;> omega
                · have hlti : (40 : Int) ≤ k := by omega
                  have HR6 : Hid (Ring wr w.heap.size 40) := Lib.hid (by have h := HR4.out; rwa [show k = 40 by omega] at h)
                  have HA6 : Hid (∀ j, ak (k + j) = ak (40 + j)) := Lib.hid (fun j => by rw [show k = 40 by omega])
                  go_wp2
                  clear HR4
                  have hkk : Hid (k = 40) := Lib.hid (by omega)
                  clear hlt hlti hk
                  go_loopw [12, 13, 14, 15, 16, 17, 26, 27, 28] (fun a b c d e i x f t wr => ∃ k : Nat, 40 ≤ k ∧ k ≤ 60 ∧ a = .int .u32 (ak (k + 4)) ∧ b = .int .u32 (ak (k + 3)) ∧ c = .int .u32 (r30 (ak (k + 2))) ∧ d = .int .u32 (r30 (ak (k + 1))) ∧ e = .int .u32 (r30 (ak k)) ∧ i = .int .i64 k ∧ Ring wr w.heap.size k ∧ Below w.heap.size w wr ∧ wr.heap.size = w.heap.size + 1) (fun _ _ _ _ _ i _ _ _ _ => 60 - (intOf i).toNat)
                  case atStart => exact ⟨k, by rw [hkk.out]; omega, by rw [hkk.out]; omega, rfl, rfl, rfl, rfl, rfl, rfl, by rw [hkk.out]; exact HR6.out, HB4.out, HS4.out⟩
                  case round =>
                    clear hkk HA6
                    obtain ⟨k, hk0, hk, rfl, rfl, rfl, rfl, rfl, rfl, hr, hbw, hsw⟩ := hrel
                    clear HR6 HB4 HS4
                    have HR4 := Lib.hid hr; have HB4 := Lib.hid hbw; have HS4 := Lib.hid hsw
                    clear hr hbw hsw
                    by_cases hlt : k < 60
                    · have hlti : (k : Int) < 60 := by omega
                      go_upto_region 31 with (fail)
                      obtain ⟨j3, hj3⟩ : ∃ j, j = (k - 3) % 16 := ⟨_, rfl⟩
                      obtain ⟨j8, hj8⟩ : ∃ j, j = (k - 8) % 16 := ⟨_, rfl⟩
                      obtain ⟨j14, hj14⟩ : ∃ j, j = (k - 14) % 16 := ⟨_, rfl⟩
                      obtain ⟨j0, hj0⟩ : ∃ j, j = k % 16 := ⟨_, rfl⟩
                      have e3 : bits .and .i64 ((k : Int) - 3) 15 = (j3 : Int) := by rw [show (k : Int) - 3 = ((k - 3 : Nat) : Int) by omega, and15 _ (by omega), hj3]
                      have e8 : bits .and .i64 ((k : Int) - 8) 15 = (j8 : Int) := by rw [show (k : Int) - 8 = ((k - 8 : Nat) : Int) by omega, and15 _ (by omega), hj8]
                      have e14 : bits .and .i64 ((k : Int) - 14) 15 = (j14 : Int) := by rw [show (k : Int) - 14 = ((k - 14 : Nat) : Int) by omega, and15 _ (by omega), hj14]
                      have e0 : bits .and .i64 (k : Int) 15 = (j0 : Int) := by rw [and15 _ (by omega), hj0]
                      have f3 : wr.cell? ⟨w.heap.size, j3, none⟩ = some (.int .u32 (wk (k - 3))) := by rw [hj3]; exact HR4.out.back (by omega) (by omega) 3 (by omega) (by omega)
                      have f8 : wr.cell? ⟨w.heap.size, j8, none⟩ = some (.int .u32 (wk (k - 8))) := by rw [hj8]; exact HR4.out.back (by omega) (by omega) 8 (by omega) (by omega)
                      have f14 : wr.cell? ⟨w.heap.size, j14, none⟩ = some (.int .u32 (wk (k - 14))) := by rw [hj14]; exact HR4.out.back (by omega) (by omega) 14 (by omega) (by omega)
                      have f0 : wr.cell? ⟨w.heap.size, j0, none⟩ = some (.int .u32 (wk (k - 16))) := by rw [hj0, show k % 16 = (k - 16) % 16 by omega]; exact HR4.out.back (by omega) (by omega) 16 (by omega) (by omega)
                      have b3 : (j3 : Int) < 16 := by omega
                      have b8 : (j8 : Int) < 16 := by omega
                      have b14 : (j14 : Int) < 16 := by omega
                      have b0 : (j0 : Int) < 16 := by omega
                      have w3 : IntKind.i64.wrap ((k : Int) - 3) = (k : Int) - 3 := IntWalk.i64_in _ (by omega)
                      have w8 : IntKind.i64.wrap ((k : Int) - 8) = (k : Int) - 8 := IntWalk.i64_in _ (by omega)
                      have w14 : IntKind.i64.wrap ((k : Int) - 14) = (k : Int) - 14 := IntWalk.i64_in _ (by omega)
                      have HJ0 := Lib.hid hj0
                      have hN := Lib.hid (next k (by omega) (by omega))
                      have hT := Lib.hid (turn3 k (by omega) (by omega))
                      clear hj3 hj8 hj14 hj0
                      have i3 : (0 : Int) ≤ j3 := by omega
                      have i8 : (0 : Int) ≤ j8 := by omega
                      have i14 : (0 : Int) ≤ j14 := by omega
                      have i0 : (0 : Int) ≤ j0 := by omega
                      go_quiet (fail)
                      clear e3 e8 e14 f3 f8 f14 f0 b3 b8 b14 w3 w8 w14 i3 i8 i14
                      have HR5 : Hid (Ring (wr.drewN nq) w.heap.size k) := Lib.hid (HR4.out.below (B := wr.heap.size) (below_drewN (Below.refl _ _) _) (by rw [HS4.out]; omega))
                      have HB5 : Hid (Below w.heap.size w (wr.drewN nq)) := Lib.hid (below_drewN HB4.out _)
                      have HS5 : Hid ((wr.drewN nq).heap.size = w.heap.size + 1) := Lib.hid HS4.out
                      generalize wr.drewN nq = wd at HR5 HB5 HS5 ⊢
                      have g0 : ∃ v, wd.cell? ⟨w.heap.size, j0, none⟩ = some v := ⟨_, by rw [HJ0.out]; exact (HR5.out (k % 16) (by omega)).1⟩
                      obtain ⟨v0, g0⟩ := g0
                      have g1 : wd.frozen? ⟨w.heap.size, j0, none⟩ = false := by rw [HJ0.out]; exact (HR5.out (k % 16) (by omega)).2
                      go_wp2_with fail
                      with_reducible refine (rot1_any _ _).mono ?_
                      rintro e w' ⟨rfl, rfl⟩
                      rw [hN.out]
                      go_upto_region 34 with (fail)
                      clear g0 g1
                      have HR7 : Hid (Ring (w'.setCell ⟨w.heap.size, j0, none⟩ (.int .u32 (wk k))) w.heap.size (k + 1)) := Lib.hid (by rw [HJ0.out]; exact HR5.out.store (by omega) (by rw [HS5.out]; omega))
                      have HB7 : Hid (Below w.heap.size w (w'.setCell ⟨w.heap.size, j0, none⟩ (.int .u32 (wk k)))) := Lib.hid (HB5.out.setCell (Nat.le_refl _) _)
                      have HS7 : Hid ((w'.setCell ⟨w.heap.size, j0, none⟩ (.int .u32 (wk k))).heap.size = w.heap.size + 1) := Lib.hid (by rw [World.size_setCell]; exact HS5.out)
                      generalize w'.setCell ⟨w.heap.size, j0, none⟩ (.int .u32 (wk k)) = ws at HR7 HB7 HS7 ⊢
                      have f0 : ws.cell? ⟨w.heap.size, j0, none⟩ = some (.int .u32 (wk k)) := by rw [HJ0.out]; exact HR7.out.back (by omega) (by omega) 1 (by omega) (by omega)
                      go_quiet ((go_at_call 66; exact Calls.quiet_of_same (rot5_any _ _)))
                      rw [hT.out]
                      clear e0 f0 b0 i0
                      have HR8 : Hid (Ring (ws.drewN nq) w.heap.size (k + 1)) := Lib.hid (HR7.out.below (B := ws.heap.size) (below_drewN (Below.refl _ _) _) (by rw [HS7.out]; omega))
                      have HB8 : Hid (Below w.heap.size w (ws.drewN nq)) := Lib.hid (below_drewN HB7.out _)
                      have HS8 : Hid ((ws.drewN nq).heap.size = w.heap.size + 1) := Lib.hid HS7.out
                      generalize ws.drewN nq = wz at HR8 HB8 HS8 ⊢
                      go_wp2_with fail
                      with_reducible refine (rot30_any _ _).mono ?_
                      rintro e w' ⟨rfl, rfl⟩
                      go_wp2
                      go_roundw
                      case rel => exact ⟨k + 1, by omega, by omega, rfl, rfl, rfl, rfl, rfl, by go_num, HR8.out, HB8.out, HS8.out⟩
                      case measure => simp [intOf] <;> omega
                    · have hlti : (60 : Int) ≤ k := by omega
                      have HR6 : Hid (Ring wr w.heap.size 60) := Lib.hid (by have h := HR4.out; rwa [show k = 60 by omega] at h)
                      have HA6 : Hid (∀ j, ak (k + j) = ak (60 + j)) := Lib.hid (fun j => by rw [show k = 60 by omega])
                      go_wp2
                      clear HR4
                      have hkk : Hid (k = 60) := Lib.hid (by omega)
                      clear hlt hlti hk
                      go_loopw [12, 13, 14, 15, 16, 17, 29, 30, 31] (fun a b c d e i x f t wr => ∃ k : Nat, 60 ≤ k ∧ k ≤ 80 ∧ a = .int .u32 (ak (k + 4)) ∧ b = .int .u32 (ak (k + 3)) ∧ c = .int .u32 (r30 (ak (k + 2))) ∧ d = .int .u32 (r30 (ak (k + 1))) ∧ e = .int .u32 (r30 (ak k)) ∧ i = .int .i64 k ∧ Ring wr w.heap.size k ∧ Below w.heap.size w wr ∧ wr.heap.size = w.heap.size + 1) (fun _ _ _ _ _ i _ _ _ _ => 80 - (intOf i).toNat)
                      case atStart => exact ⟨k, by rw [hkk.out]; omega, by rw [hkk.out]; omega, rfl, rfl, rfl, rfl, rfl, rfl, by rw [hkk.out]; exact HR6.out, HB4.out, HS4.out⟩
                      case round =>
                        clear hkk HA6
                        obtain ⟨k, hk0, hk, rfl, rfl, rfl, rfl, rfl, rfl, hr, hbw, hsw⟩ := hrel
                        clear HR6 HB4 HS4
                        have HR4 := Lib.hid hr; have HB4 := Lib.hid hbw; have HS4 := Lib.hid hsw
                        clear hr hbw hsw
                        by_cases hlt : k < 80
                        · have hlti : (k : Int) < 80 := by omega
                          go_upto_region 38 with (fail)
                          obtain ⟨j3, hj3⟩ : ∃ j, j = (k - 3) % 16 := ⟨_, rfl⟩
                          obtain ⟨j8, hj8⟩ : ∃ j, j = (k - 8) % 16 := ⟨_, rfl⟩
                          obtain ⟨j14, hj14⟩ : ∃ j, j = (k - 14) % 16 := ⟨_, rfl⟩
                          obtain ⟨j0, hj0⟩ : ∃ j, j = k % 16 := ⟨_, rfl⟩
                          have e3 : bits .and .i64 ((k : Int) - 3) 15 = (j3 : Int) := by rw [show (k : Int) - 3 = ((k - 3 : Nat) : Int) by omega, and15 _ (by omega), hj3]
                          have e8 : bits .and .i64 ((k : Int) - 8) 15 = (j8 : Int) := by rw [show (k : Int) - 8 = ((k - 8 : Nat) : Int) by omega, and15 _ (by omega), hj8]
                          have e14 : bits .and .i64 ((k : Int) - 14) 15 = (j14 : Int) := by rw [show (k : Int) - 14 = ((k - 14 : Nat) : Int) by omega, and15 _ (by omega), hj14]
                          have e0 : bits .and .i64 (k : Int) 15 = (j0 : Int) := by rw [and15 _ (by omega), hj0]
                          have f3 : wr.cell? ⟨w.heap.size, j3, none⟩ = some (.int .u32 (wk (k - 3))) := by rw [hj3]; exact HR4.out.back (by omega) (by omega) 3 (by omega) (by omega)
                          have f8 : wr.cell? ⟨w.heap.size, j8, none⟩ = some (.int .u32 (wk (k - 8))) := by rw [hj8]; exact HR4.out.back (by omega) (by omega) 8 (by omega) (by omega)
                          have f14 : wr.cell? ⟨w.heap.size, j14, none⟩ = some (.int .u32 (wk (k - 14))) := by rw [hj14]; exact HR4.out.back (by omega) (by omega) 14 (by omega) (by omega)
                          have f0 : wr.cell? ⟨w.heap.size, j0, none⟩ = some (.int .u32 (wk (k - 16))) := by rw [hj0, show k % 16 = (k - 16) % 16 by omega]; exact HR4.out.back (by omega) (by omega) 16 (by omega) (by omega)
                          have b3 : (j3 : Int) < 16 := by omega
                          have b8 : (j8 : Int) < 16 := by omega
                          have b14 : (j14 : Int) < 16 := by omega
                          have b0 : (j0 : Int) < 16 := by omega
                          have w3 : IntKind.i64.wrap ((k : Int) - 3) = (k : Int) - 3 := IntWalk.i64_in _ (by omega)
                          have w8 : IntKind.i64.wrap ((k : Int) - 8) = (k : Int) - 8 := IntWalk.i64_in _ (by omega)
                          have w14 : IntKind.i64.wrap ((k : Int) - 14) = (k : Int) - 14 := IntWalk.i64_in _ (by omega)
                          have HJ0 := Lib.hid hj0
                          have hN := Lib.hid (next k (by omega) (by omega))
                          have hT := Lib.hid (turn4 k (by omega) (by omega))
                          clear hj3 hj8 hj14 hj0
                          have i3 : (0 : Int) ≤ j3 := by omega
                          have i8 : (0 : Int) ≤ j8 := by omega
                          have i14 : (0 : Int) ≤ j14 := by omega
                          have i0 : (0 : Int) ≤ j0 := by omega
                          go_quiet (fail)
                          clear e3 e8 e14 f3 f8 f14 f0 b3 b8 b14 w3 w8 w14 i3 i8 i14
                          have HR5 : Hid (Ring (wr.drewN nq) w.heap.size k) := Lib.hid (HR4.out.below (B := wr.heap.size) (below_drewN (Below.refl _ _) _) (by rw [HS4.out]; omega))
                          have HB5 : Hid (Below w.heap.size w (wr.drewN nq)) := Lib.hid (below_drewN HB4.out _)
                          have HS5 : Hid ((wr.drewN nq).heap.size = w.heap.size + 1) := Lib.hid HS4.out
                          generalize wr.drewN nq = wd at HR5 HB5 HS5 ⊢
                          have g0 : ∃ v, wd.cell? ⟨w.heap.size, j0, none⟩ = some v := ⟨_, by rw [HJ0.out]; exact (HR5.out (k % 16) (by omega)).1⟩
                          obtain ⟨v0, g0⟩ := g0
                          have g1 : wd.frozen? ⟨w.heap.size, j0, none⟩ = false := by rw [HJ0.out]; exact (HR5.out (k % 16) (by omega)).2
                          go_wp2_with fail
                          with_reducible refine (rot1_any _ _).mono ?_
                          rintro e w' ⟨rfl, rfl⟩
                          rw [hN.out]
                          go_upto_region 41 with (fail)
                          clear g0 g1
                          have HR7 : Hid (Ring (w'.setCell ⟨w.heap.size, j0, none⟩ (.int .u32 (wk k))) w.heap.size (k + 1)) := Lib.hid (by rw [HJ0.out]; exact HR5.out.store (by omega) (by rw [HS5.out]; omega))
                          have HB7 : Hid (Below w.heap.size w (w'.setCell ⟨w.heap.size, j0, none⟩ (.int .u32 (wk k)))) := Lib.hid (HB5.out.setCell (Nat.le_refl _) _)
                          have HS7 : Hid ((w'.setCell ⟨w.heap.size, j0, none⟩ (.int .u32 (wk k))).heap.size = w.heap.size + 1) := Lib.hid (by rw [World.size_setCell]; exact HS5.out)
                          generalize w'.setCell ⟨w.heap.size, j0, none⟩ (.int .u32 (wk k)) = ws at HR7 HB7 HS7 ⊢
                          have f0 : ws.cell? ⟨w.heap.size, j0, none⟩ = some (.int .u32 (wk k)) := by rw [HJ0.out]; exact HR7.out.back (by omega) (by omega) 1 (by omega) (by omega)
                          go_quiet ((go_at_call 66; exact Calls.quiet_of_same (rot5_any _ _)))
                          rw [hT.out]
                          clear e0 f0 b0 i0
                          have HR8 : Hid (Ring (ws.drewN nq) w.heap.size (k + 1)) := Lib.hid (HR7.out.below (B := ws.heap.size) (below_drewN (Below.refl _ _) _) (by rw [HS7.out]; omega))
                          have HB8 : Hid (Below w.heap.size w (ws.drewN nq)) := Lib.hid (below_drewN HB7.out _)
                          have HS8 : Hid ((ws.drewN nq).heap.size = w.heap.size + 1) := Lib.hid HS7.out
                          generalize ws.drewN nq = wz at HR8 HB8 HS8 ⊢
                          go_wp2_with fail
                          with_reducible refine (rot30_any _ _).mono ?_
                          rintro e w' ⟨rfl, rfl⟩
                          go_wp2
                          go_roundw
                          case rel => exact ⟨k + 1, by omega, by omega, rfl, rfl, rfl, rfl, rfl, by go_num, HR8.out, HB8.out, HS8.out⟩
                          case measure => simp [intOf] <;> omega
                        · have hlti : (80 : Int) ≤ k := by omega
                          have o0 : (h0k 0 + ak (k + 4)) % 4294967296 = outk 0 := by rw [show k = 80 by omega]; decide +kernel
                          have o1 : (h0k 1 + ak (k + 3)) % 4294967296 = outk 1 := by rw [show k = 80 by omega]; decide +kernel
                          have o2 : (h0k 2 + r30 (ak (k + 2))) % 4294967296 = outk 2 := by rw [show k = 80 by omega]; decide +kernel
                          have o3 : (h0k 3 + r30 (ak (k + 1))) % 4294967296 = outk 3 := by rw [show k = 80 by omega]; decide +kernel
                          have o4 : (h0k 4 + r30 (ak k)) % 4294967296 = outk 4 := by rw [show k = 80 by omega]; decide +kernel
                          have HO := Lib.hid (And.intro o0 (And.intro o1 (And.intro o2 (And.intro o3 o4))))
                          clear o0 o1 o2 o3 o4 HH2 HBK2 HR HW HR2 HB2 HS2 HB3 HR4
                          go_wp2
                          clear hlt hlti hk hk0
                          rw [rounds_succ]
                          rw [HO.out.1, HO.out.2.1, HO.out.2.2.1, HO.out.2.2.2.1, HO.out.2.2.2.2]
                          go_wp2
                          have HG0 : Hid (w.grownBy wr (some d)) := Lib.hid (grownBy_below HB4.out)
                          have HL0 : Hid (wr.heap[d]? = some (.cells L.toArray T (0, 0))) := Lib.hid ((HB4.out.block d hd).trans HLW.out)
                          have HLEN : Hid (5 ≤ L.length) := HLEN0
                          clear HB4 HS4 HO HLW HB HS
                          generalize hwr : wr = w0 at HG0 HL0 ⊢
                          clear hwr
                          obtain ⟨v0, c0⟩ := row_cell (i := 0) HL0.out (by have := HLEN.out; omega)
                          obtain ⟨v1, c1⟩ := row_cell (i := 1) HL0.out (by have := HLEN.out; omega)
                          obtain ⟨v2, c2⟩ := row_cell (i := 2) HL0.out (by have := HLEN.out; omega)
                          obtain ⟨v3, c3⟩ := row_cell (i := 3) HL0.out (by have := HLEN.out; omega)
                          obtain ⟨v4, c4⟩ := row_cell (i := 4) HL0.out (by have := HLEN.out; omega)
                          have f0 := Lib.frozen_of_heap HL0.out 0
                          have f1 := Lib.frozen_of_heap HL0.out 1
                          have f2 := Lib.frozen_of_heap HL0.out 2
                          have f3 := Lib.frozen_of_heap HL0.out 3
                          have f4 := Lib.frozen_of_heap HL0.out 4
                          have HE : Hid (BlockEnd d T L w (((((w0.setCell ⟨d, 0, none⟩ (.int .u32 (outk 0))).setCell ⟨d, 1, none⟩ (.int .u32 (outk 1))).setCell ⟨d, 2, none⟩ (.int .u32 (outk 2))).setCell ⟨d, 3, none⟩ (.int .u32 (outk 3))).setCell ⟨d, 4, none⟩ (.int .u32 (outk 4))).drew) := Lib.hid (blockEnd HG0.out HL0.out)
                          go_region
                          go_end0
                          exact ⟨rfl, HE.out.1, HE.out.2⟩
end Go.Proofs.YtnhegjjegamdfaaFmt
