/- ReadVariableWidthInt, out of a bytes.Reader. -/
import Derived.Test.YtgibmkgibkhemaaDoorRd
namespace Go.Proofs.YtgibmkgibkhemaaDoor
open Go.RowKit
set_option linter.unusedSimpArgs false
set_option linter.unusedVariables false

set_option maxRecDepth 100000 in
set_option maxHeartbeats 1000000 in
theorem readFull_any (B rb tb db n c j y T tc : Nat) (x z : Int) (w : World) (hB : B ≤ rb) (hrt : rb < tb) (hdt : db < tb) (hdr : db ≠ rb) (hj : j < n) (hn : n ≤ 1000) (hnc : n ≤ c) (hc : c ≤ 9223372036854775807) (htc : 1 ≤ tc)
    (hr : RdrAt w rb db n c j x) (ht : w.heap[tb]? = some (.cells #[.int .u8 z] T (0, 0))) (hd : w.cell? ⟨db, j, none⟩ = some (.int .u8 (y : Nat))) :
    Calls Tryd.prog 43 #[.iface 48 (.pointer (some ⟨rb, 0, none⟩)), .slice (some ⟨tb, 0, none⟩) 1 tc] w (ReadPost B rb tb db n c j y T w) := by
  have HR := Lib.hid hr; have HT := Lib.hid ht; have HD := Lib.hid hd
  clear hr ht hd
  go_enter Tryd.func43, Tryd.ntmps43
  go_wp2_with fail
  with_reducible refine (readAtLeast_any B rb tb db n c j y T tc x z w hB hrt hdt hdr hj hn hnc hc htc HR.out HT.out HD.out).mono ?_
  rintro e w2 ⟨rfl, h1, h2, h3, h4⟩
  have HP : Hid (ReadPost B rb tb db n c j y T w (.returned (.tuple #[.int .i64 1, .nilIface])) w2) := Lib.hid ⟨rfl, h1, h2, h3, h4⟩
  clear h1 h2 h3 h4
  go_wp2
  go_ret2
  exact HP.out

def ZPost (B rb cb db n c j y T : Nat) (w : World) (e : Ending) (w' : World) : Prop :=
  e = .returned .nilIface ∧ RdrAt w' rb db n c (j + 1) (-1) ∧ w'.heap[cb]? = some (.cells #[.int .u8 (y : Nat)] T (0, 0)) ∧ (∀ k, k < w.heap.size → k ≠ rb → k ≠ cb → w'.heap[k]? = w.heap[k]?) ∧ Below B w w'
set_option maxRecDepth 100000 in
set_option maxHeartbeats 4000000 in
theorem zzRead_any (B rb cb db n c j y T : Nat) (x z : Int) (w : World) (hB : B ≤ rb) (hBc : B ≤ cb) (hrc : rb ≠ cb) (hdl : db < w.heap.size) (hdr : db ≠ rb) (hdc : db ≠ cb) (hj : j < n) (hn : n ≤ 1000) (hnc : n ≤ c) (hc : c ≤ 9223372036854775807)
    (hr : RdrAt w rb db n c j x) (ht : w.heap[cb]? = some (.cells #[.int .u8 z] T (0, 0))) (hd : w.cell? ⟨db, j, none⟩ = some (.int .u8 (y : Nat))) :
    Calls Tryd.prog 27 #[.iface 48 (.pointer (some ⟨rb, 0, none⟩)), .iface 65 (.pointer (some ⟨cb, 0, none⟩))] w (ZPost B rb cb db n c j y T w) := by
  have HR := Lib.hid hr; have HT := Lib.hid ht; have HD := Lib.hid hd
  have hrl := lt_heap hr
  have hcl := lt_heap ht
  clear hr ht hd
  have hta : ∀ (b : Nat) (w : World), (Instr.typeAssert (.iface 65 (.pointer (some ⟨b, 0, none⟩))) 20 65 true).run Tryd.prog w = .ok (.tuple #[.pointer (some ⟨b, 0, none⟩), .bool true]) w := fun _ _ => by kernel_rfl
  go_enter Tryd.func27, Tryd.ntmps27
  go_wp2_with fail
  have hb0 : Below w.heap.size w (w.alloc (.cells #[.int .u8 0] 93)) := (Below.refl _ _).alloc (Nat.le_refl _) _
  have HB0 := Lib.hid hb0; clear hb0
  have HF := Lib.hid (readFull_any B rb w.heap.size db n c j y 93 1 x 0 (w.alloc (.cells #[.int .u8 0] 93)) hB hrl hdl hdr hj hn hnc hc (Nat.le_refl _) ((HB0.out.block rb hrl).trans HR.out) (heap_new w _) ((HB0.out.cell (p := ⟨db, j, none⟩) hdl).trans HD.out))
  with_reducible refine HF.out.mono ?_
  rintro e w2 ⟨rfl, h1, h2, h3, h4⟩
  have H1 := Lib.hid h1
  have H3 : Hid (∀ k, k < w.heap.size → k ≠ rb → w2.heap[k]? = w.heap[k]?) := Lib.hid fun k hk hr => (h3 k hk hr).trans (HB0.out.block k hk)
  have H4 : Hid (Below B w w2) := Lib.hid ((HB0.out.mono (by omega)).trans h4)
  have HC : Hid (w2.heap[cb]? = some (.cells #[.int .u8 z] T (0, 0))) := Lib.hid ((H3.out cb hcl (fun e => hrc e.symm)).trans HT.out)
  have d1 : w2.cell? ⟨w.heap.size, 0, none⟩ = some (.int .u8 (y : Nat)) := by rw [Lib.cell_of_heap h2]; rfl
  have d2 : w2.cell? ⟨cb, 0, none⟩ = some (.int .u8 z) := by rw [Lib.cell_of_heap HC.out]; rfl
  have d3 : w2.frozen? ⟨cb, 0, none⟩ = false := Lib.frozen_of_heap HC.out 0
  clear h1 h2 h3 h4 HF
  go_wp2
  go_ret
  refine ⟨rfl, ?_, ?_, ?_, ?_⟩
  · show _ = _
    rw [Below.heap_setCell _ _ _ _ hrc]; exact H1.out
  · have := Lib.heap_setCell_same (i := 0) HC.out (.int .u8 (y : Nat))
    exact this
  · intro k hk hr hc
    rw [Below.heap_setCell _ _ _ _ hc]; exact H3.out k hk hr
  · exact H4.out.setCell (p := ⟨cb, 0, none⟩) hBc _

set_option maxRecDepth 100000 in
set_option maxHeartbeats 4000000 in
theorem bread_any (B rb cb db n c j y T ab : Nat) (x z : Int) (w : World) (hB : B ≤ rb) (hBc : B ≤ cb) (hrc : rb ≠ cb) (hdl : db < w.heap.size) (hdr : db ≠ rb) (hdc : db ≠ cb) (hj : j < n) (hn : n ≤ 1000) (hnc : n ≤ c) (hc : c ≤ 9223372036854775807)
    (hr : RdrAt w rb db n c j x) (ht : w.heap[cb]? = some (.cells #[.int .u8 z] T (0, 0))) (hd : w.cell? ⟨db, j, none⟩ = some (.int .u8 (y : Nat))) (ha : w.cell? ⟨ab, 0, none⟩ = some (.iface 65 (.pointer (some ⟨cb, 0, none⟩)))) :
    Calls Tryd.prog 23 #[.iface 48 (.pointer (some ⟨rb, 0, none⟩)), .slice (some ⟨ab, 0, none⟩) 1 1] w (ZPost B rb cb db n c j y T w) := by
  have HR := Lib.hid hr; have HT := Lib.hid ht; have HD := Lib.hid hd
  clear hr ht hd
  go_enter Tryd.func23, Tryd.ntmps23
  go_wp2
  go_loopw [10] (fun k wr => (k = .int .i64 0 ∧ wr = w) ∨ (k = .int .i64 1 ∧ ZPost B rb cb db n c j y T w (.returned .nilIface) wr)) (fun k _ => 1 - (intOf k).toNat)
  case atStart => exact .inl ⟨rfl, rfl⟩
  case round =>
    obtain ⟨rfl, rfl⟩ | ⟨rfl, hp⟩ := hrel
    · go_wp2_with fail
      with_reducible refine (zzRead_any B rb cb db n c j y T x z wr hB hBc hrc hdl hdr hdc hj hn hnc hc HR.out HT.out HD.out).mono ?_
      rintro e w2 ⟨rfl, h1, h2, h3, h4⟩
      have HP : Hid (ZPost B rb cb db n c j y T wr (.returned .nilIface) w2) := Lib.hid ⟨rfl, h1, h2, h3, h4⟩
      clear h1 h2 h3 h4
      go_wp2
      go_roundw
      case rel => exact .inr ⟨rfl, HP.out⟩
      case measure => simp [intOf]
    · have HP := Lib.hid hp
      clear hp
      go_wp2
      go_ret
      exact HP.out

theorem u8_and128 (x : Nat) (h : x < 256) : bits .and .u8 (x : Int) 128 = if x < 128 then 0 else 128 := by
  have h2 := u8_and_nat x 128 h (by decide)
  have h3 : ∀ y, y < 256 → y &&& 128 = if y < 128 then 0 else 128 := by decide +kernel
  rw [h3 x h] at h2
  refine h2.trans ?_
  split <;> rfl
theorem u8_and127 (x : Nat) (h : x < 256) : bits .and .u8 (x : Int) 127 = ((x % 128 : Nat) : Int) := by
  have := u8_and_nat x 127 h (by decide)
  rw [Nat.and_two_pow_sub_one_eq_mod x 7] at this
  exact this
def RdSt (B rb cb db n c : Nat) (g : Nat → Nat) (w : World) (j : Nat) (wr : World) : Prop :=
  (∃ x, RdrAt wr rb db n c (j + 1) x) ∧ wr.heap[cb]? = some (.cells #[.int .u8 (g j : Nat)] 5 (0, 0)) ∧ (∀ i, i < n → wr.cell? ⟨db, i, none⟩ = some (.int .u8 (g i : Nat))) ∧ Below B w wr
theorem RdSt.of {B rb cb db n c j : Nat} {g : Nat → Nat} {w w1 w2 : World} {e : Ending} (h : ZPost B rb cb db n c j (g j) 5 w1 e w2) (hc : ∀ i, i < n → w1.cell? ⟨db, i, none⟩ = some (.int .u8 (g i : Nat))) (hdl : db < w1.heap.size) (hdr : db ≠ rb) (hdc : db ≠ cb) (hb : Below B w w1) : RdSt B rb cb db n c g w j w2 := by
  obtain ⟨_, h1, h2, h3, h4⟩ := h
  refine ⟨⟨_, h1⟩, h2, fun i hi => ?_, hb.trans h4⟩
  have := hc i hi
  unfold World.cell? at this ⊢
  rw [h3 db hdl hdr hdc]; exact this
def VarPost (B rb db n c k : Nat) (z : Nat) (w : World) (e : Ending) (w' : World) : Prop :=
  e = .returned (.tuple #[.int .i64 (z : Nat), .nilIface]) ∧ (∃ x, RdrAt w' rb db n c (k + 1) x) ∧ Below B w w'

set_option maxRecDepth 100000 in
set_option maxHeartbeats 4000000 in
theorem readVar_any (B rb db n c k : Nat) (g : Nat → Nat) (x : Int) (w : World) (hB : B ≤ rb) (hdr : db ≠ rb) (hdl : db < w.heap.size) (hk : k < n) (hn : n ≤ 1000) (hnc : n ≤ c) (hc : c ≤ 9223372036854775807)
    (hg : ∀ i, g i < 256) (hcont : ∀ i, i < k → 128 ≤ g i) (hlast : g k < 128) (hv : offVal g k ≤ 72057594037927936)
    (hr : RdrAt w rb db n c 0 x) (hd : ∀ i, i < n → w.cell? ⟨db, i, none⟩ = some (.int .u8 (g i : Nat))) :
    Calls Tryd.prog 18 #[.iface 48 (.pointer (some ⟨rb, 0, none⟩))] w (VarPost B rb db n c k (offVal g k) w) := by
  have HR := Lib.hid hr; have HD := Lib.hid hd
  have HG := Lib.hid hg; have HC := Lib.hid hcont; have HL := Lib.hid hlast; have HV := Lib.hid hv
  have hrl := lt_heap hr
  clear hr hd hg hcont hlast hv
  go_enter Tryd.func18, Tryd.ntmps18
  go_wp2_with fail
  have hb1 : Hid (Below w.heap.size w (w.alloc (.cells #[.int .u8 0] 5))) := Lib.hid ((Below.refl _ _).alloc (Nat.le_refl _) _)
  have hc1 : Hid ((w.alloc (.cells #[.int .u8 0] 5)).heap[w.heap.size]? = some (.cells #[.int .u8 0] 5 (0, 0))) := Lib.hid (heap_new w _)
  have hs1 : (w.alloc (.cells #[.int .u8 0] 5)).heap.size = w.heap.size + 1 := heap_new_size w _
  generalize w.alloc (.cells #[.int .u8 0] 5) = W1 at hb1 hc1 hs1 ⊢
  have hb2 : Hid (Below W1.heap.size W1 (W1.alloc (.cells #[.iface 65 (.pointer (some ⟨w.heap.size, 0, none⟩))] 20))) := Lib.hid ((Below.refl _ _).alloc (Nat.le_refl _) _)
  have hc2 : Hid ((W1.alloc (.cells #[.iface 65 (.pointer (some ⟨w.heap.size, 0, none⟩))] 20)).cell? ⟨w.heap.size + 1, 0, none⟩ = some (.iface 65 (.pointer (some ⟨w.heap.size, 0, none⟩)))) := Lib.hid (by rw [← hs1]; exact World.cell?_alloc_mark W1 _ 20 (0, 0) 0)
  generalize W1.alloc (.cells #[.iface 65 (.pointer (some ⟨w.heap.size, 0, none⟩))] 20) = W2 at hb2 hc2 ⊢
  have hB2 : Hid (Below w.heap.size w W2) := Lib.hid (hb1.out.trans (hb2.out.mono (by omega)))
  have hsz2 : w.heap.size + 1 ≤ W2.heap.size := by have := hb2.out.size; omega
  have HRD := Lib.hid (bread_any B rb w.heap.size db n c 0 (g 0) 5 (w.heap.size + 1) x 0 W2 hB (by omega) (by omega) (by omega) hdr (by omega) (by omega) hn hnc hc ((hB2.out.block rb hrl).trans HR.out) ((hb2.out.block w.heap.size (by omega)).trans hc1.out) ((hB2.out.cell (p := ⟨db, 0, none⟩) hdl).trans (HD.out 0 (by omega))) hc2.out)
  with_reducible refine HRD.out.mono ?_
  rintro e w2 hz
  have HE := Lib.hid hz.1
  have HST : Hid (RdSt B rb w.heap.size db n c g w 0 w2) := Lib.hid (RdSt.of hz (fun i hi => (hB2.out.cell (p := ⟨db, i, none⟩) hdl).trans (HD.out i hi)) (by omega) hdr (by omega) (hB2.out.mono (by omega)))
  have hsz3 : w.heap.size + 1 ≤ w2.heap.size := by have := hz.2.2.2.2.size; omega
  clear hz HRD hc2 hb2 hc1 hb1 hB2
  obtain rfl := HE.out
  clear HE
  have d1 : w2.cell? ⟨w.heap.size, 0, none⟩ = some (.int .u8 (g 0 : Nat)) := by rw [Lib.cell_of_heap HST.out.2.1]; rfl
  have HV0 : Hid (bits .and .u8 (g 0 : Int) 127 = (offVal g 0 : Nat)) := Lib.hid (u8_and127 (g 0) (HG.out 0))
  have e0 := HV0.out
  generalize hv0 : offVal g 0 = v0 at e0
  have HV00 := Lib.hid hv0
  have hv0b : v0 ≤ 127 := by rw [← hv0]; show g 0 % 128 ≤ 127; omega
  generalize hg0 : g 0 = g0 at d1 e0
  clear HV0 hv0 hg0 hs1
  go_wp2
  clear d1 e0
  go_loopw [6] (fun v wr => ∃ j : Nat, j ≤ k ∧ v = .int .i64 (offVal g j : Nat) ∧ w.heap.size + 1 ≤ wr.heap.size ∧ RdSt B rb w.heap.size db n c g w j wr) (fun v _ => offVal g k + 1 - (intOf v).toNat)
  case atStart => exact ⟨0, by omega, by rw [HV00.out], hsz3, HST.out⟩
  case round =>
    clear HST HV00 hsz3 hsz2
    obtain ⟨j, hj, rfl, hszr, hst⟩ := hrel
    have HST := Lib.hid hst; clear hst
    have d1 : wr.cell? ⟨w.heap.size, 0, none⟩ = some (.int .u8 (g j : Nat)) := by rw [Lib.cell_of_heap HST.out.2.1]; rfl
    by_cases hjk : j < k
    · have hgj := HC.out j hjk
      have hgl := HG.out j
      have e1 : bits .and .u8 (g j : Int) 128 = 128 := by rw [u8_and128 (g j) hgl, if_neg (by omega)]
      have hvl := offV_lt g j k hjk
      have hvk := HV.out
      have hv1 : ¬ (72057594037927935 : Int) ≤ (offVal g j : Nat) := by omega
      generalize hvv : offVal g j = v at *
      have HVV := Lib.hid hvv; clear hvv
      generalize hgg : g j = gj at *
      have HGG := Lib.hid hgg; clear hgg
      have hvb : (v : Int) + 1 ≤ 562949953421312 := by omega
      clear hgj hvk hvl
      have HVL := Lib.hid hvb; clear hvb
      have HV1 : Hid (v < 72057594037927935) := Lib.hid (by omega)
      go_upto_region 10 with (fail)
      clear hv1
      have hv2 := HVL.out
      have hRR := HST.out.1
      obtain ⟨xr, hRR⟩ := hRR
      have hb2 : Hid (Below wr.heap.size wr (wr.alloc (.cells #[.iface 65 (.pointer (some ⟨w.heap.size, 0, none⟩))] 20))) := Lib.hid ((Below.refl _ _).alloc (Nat.le_refl _) _)
      have hc2 : Hid ((wr.alloc (.cells #[.iface 65 (.pointer (some ⟨w.heap.size, 0, none⟩))] 20)).cell? ⟨wr.heap.size, 0, none⟩ = some (.iface 65 (.pointer (some ⟨w.heap.size, 0, none⟩)))) := Lib.hid (World.cell?_alloc_mark wr _ 20 (0, 0) 0)
      have HRD := Lib.hid (bread_any B rb w.heap.size db n c (j + 1) (g (j + 1)) 5 wr.heap.size xr (gj : Int) (wr.alloc (.cells #[.iface 65 (.pointer (some ⟨w.heap.size, 0, none⟩))] 20)) hB (by omega) (by omega) (by have := hb2.out.size; omega) hdr (by omega) (by omega) hn hnc hc ((hb2.out.block rb (by omega)).trans hRR) ((hb2.out.block w.heap.size (by omega)).trans (by rw [← HGG.out]; exact HST.out.2.1)) ((hb2.out.cell (p := ⟨db, j + 1, none⟩) (show db < _ by omega)).trans (HST.out.2.2.1 (j + 1) (by omega))) hc2.out)
      clear hRR
      go_wp2_with fail
      with_reducible refine HRD.out.mono ?_
      rintro e w2 hz
      have HE := Lib.hid hz.1
      have HST2 : Hid (RdSt B rb w.heap.size db n c g w (j + 1) w2) := Lib.hid (RdSt.of hz (fun i hi => (hb2.out.cell (p := ⟨db, i, none⟩) (show db < _ by omega)).trans (HST.out.2.2.1 i hi)) (by have := hb2.out.size; omega) hdr (by omega) (HST.out.2.2.2.trans (hb2.out.mono (by omega))))
      have hsz3 : w.heap.size + 1 ≤ w2.heap.size := by have := hz.2.2.2.2.size; have := hb2.out.size; omega
      clear hz HRD hc2 hb2
      obtain rfl := HE.out
      clear HE d1 e1
      have d1 : w2.cell? ⟨w.heap.size, 0, none⟩ = some (.int .u8 (g (j + 1) : Nat)) := by rw [Lib.cell_of_heap HST2.out.2.1]; rfl
      have e2 : bits .and .u8 (g (j + 1) : Int) 127 = ((g (j + 1) % 128 : Nat) : Int) := u8_and127 _ (HG.out (j + 1))
      have hy : g (j + 1) % 128 < 128 := Nat.mod_lt _ (by decide)
      have HNV : Hid (offVal g (j + 1) = (v + 1) * 128 + g (j + 1) % 128) := Lib.hid (by show (offVal g j + 1) * 128 + _ = _; rw [HVV.out])
      generalize g (j + 1) % 128 = y at e2 hy HNV
      generalize g (j + 1) = gn at d1 e2
      go_wp2
      go_roundw
      case rel => exact ⟨j + 1, by omega, congrArg (Value.int .i64) (by have := HNV.out; omega), hsz3, HST2.out⟩
      case measure =>
        have h1 := HNV.out
        have h2 := offV_mono g (j + 1) k (by omega)
        simp [intOf]
        omega
    · obtain rfl : j = k := by omega
      have hgj := HL.out
      have e1 : bits .and .u8 (g j : Int) 128 = 0 := by rw [u8_and128 (g j) (HG.out j), if_pos hgj]
      have HF := Lib.hid HST.out.1
      have HB := Lib.hid HST.out.2.2.2
      go_wp2
      go_ret2
      exact ⟨rfl, HF.out, HB.out⟩

def LenPost (z : Int) (w : World) (e : Ending) (w' : World) : Prop := e = .returned (.int .i64 z) ∧ Below w.heap.size w w'
set_option maxRecDepth 100000 in
set_option maxHeartbeats 1000000 in
theorem rlen_any (rb db n c i : Nat) (x : Int) (w : World) (hi : i ≤ n) (hn : n ≤ 1000) (hr : RdrAt w rb db n c i x) :
    Calls Tryd.prog 19 #[.pointer (some ⟨rb, 0, none⟩)] w (LenPost ((n : Int) - (i : Nat)) w) := by
  have c0 : w.cell? ⟨rb, 0, none⟩ = some (.slice (some ⟨db, 0, none⟩) n c) := by rw [Lib.cell_of_heap hr]; rfl
  have c1 : w.cell? ⟨rb, 1, none⟩ = some (.int .i64 (i : Nat)) := by rw [Lib.cell_of_heap hr]; rfl
  clear hr
  by_cases h : n ≤ i
  · obtain rfl : n = i := by omega
    go_enter Tryd.func19, Tryd.ntmps19
    go_wp2
    go_quiet (fail)
    go_wp2
    go_ret
    exact ⟨ret_int (by omega), below_drewN (Below.refl _ _) _⟩
  · go_enter Tryd.func19, Tryd.ntmps19
    go_wp2
    go_quiet (fail)
    go_wp2
    go_quiet (fail)
    go_wp2
    go_ret
    exact ⟨ret_int (by first | rfl | omega), below_drewN (below_drewN (Below.refl _ _) _) _⟩
set_option maxHeartbeats 1000000 in
theorem newReader_any (A : Option Addr) (n c : Nat) (w : World) :
    Calls Tryd.prog 17 #[.slice A n c] w fun e w' => e = .returned (.pointer (some ⟨w.heap.size, 0, none⟩)) ∧ w.alloc (.cells #[.slice A n c, .int .i64 0, .int .i64 (-1)] 61) = w' := by
  go_enter Tryd.func17, Tryd.ntmps17
  go_wp2
  go_ret
  exact ⟨rfl, rfl⟩

def OffReadPost (z k : Nat) (w : World) (e : Ending) (w' : World) : Prop := e = .returned (.tuple #[.int .i64 (z : Nat), .int .i64 ((k + 1 : Nat) : Int), .string ⟨#[]⟩]) ∧ Below w.heap.size w w'
set_option maxRecDepth 100000 in
set_option maxHeartbeats 4000000 in
theorem offRead_any (s : ByteArray) (k : Nat) (w : World) (hk : k < s.size) (hn : s.size ≤ 1000) (hcont : ∀ i, i < k → 128 ≤ bx s i) (hlast : bx s k < 128) (hv : offVal (bx s) k ≤ 72057594037927936) :
    Calls Tryd.prog 10 #[.string s] w (OffReadPost (offVal (bx s) k) k w) := by
  have hconv := Lib.run_convert_string_bytes (P := Tryd.prog) w 9 38 5 s strKind bytesKind byteKind
  have HB := Lib.hid (bytesBelow w 5 s)
  have HA : Hid (∀ j, j < s.size → (Lib.bytesWorld w 5 s).cell? ⟨w.heap.size, j, none⟩ = some (.int .u8 (bx s j))) := Lib.hid fun j hj => (bytesAt_new w 5 s j hj).1
  have HS : Hid ((Lib.bytesWorld w 5 s).heap.size = w.heap.size + 1) := Lib.hid (by rw [Lib.bytesWorld_size])
  have HC := Lib.hid hcont; have HL := Lib.hid hlast; have HV := Lib.hid hv
  have HCAP := Lib.hid (grownCap_ge w s.size 0 5)
  have HCAP2 := Lib.hid (grownCap_le_maxLen w s.size 0 5 (by unfold maxLen; omega))
  clear hcont hlast hv
  go_enter Tryd.func10, Tryd.ntmps10
  go_wp2_with fail
  clear hconv
  with_reducible refine (newReader_any _ _ _ _).mono ?_
  rintro e w1 ⟨rfl, hw1⟩
  have hb1 : Hid (Below (w.heap.size + 1) (Lib.bytesWorld w 5 s) w1) := Lib.hid (by subst hw1; rw [← HS.out]; exact (Below.refl _ _).alloc (Nat.le_refl _) _)
  have hr1 : Hid (RdrAt w1 (w.heap.size + 1) w.heap.size s.size (grownCap w s.size 0 5) 0 (-1)) := Lib.hid (by subst hw1; rw [← HS.out]; exact heap_new _ _)
  have hs1 : w1.heap.size = w.heap.size + 2 := by subst hw1; rw [heap_new_size, HS.out]
  clear hw1
  have HRV := Lib.hid (readVar_any w.heap.size (w.heap.size + 1) w.heap.size s.size (grownCap w s.size 0 5) k (bx s) (-1) w1 (by omega) (by omega) (by omega) hk hn HCAP.out (Nat.le_trans HCAP2.out (by decide)) (fun i => bx_lt s i) HC.out HL.out HV.out hr1.out (fun i hi => (hb1.out.cell (p := ⟨w.heap.size, i, none⟩) (show w.heap.size < _ by omega)).trans (HA.out i hi)))
  rw [HS.out]
  go_wp2_with fail
  with_reducible refine HRV.out.mono ?_
  rintro e w2 ⟨rfl, hr2, hb2⟩
  have HB2 : Hid (Below w.heap.size w w2) := Lib.hid ((HB.out.trans (hb1.out.mono (by omega))).trans hb2)
  obtain ⟨x2, hr2⟩ := hr2
  have HR2 := Lib.hid hr2
  clear hr2 hb2 HRV hb1 hr1
  generalize hzz : offVal (bx s) k = z
  have HZ := Lib.hid hzz; clear hzz
  go_wp2_with fail
  with_reducible refine (rlen_any (w.heap.size + 1) w.heap.size s.size _ (k + 1) x2 w2 (by omega) hn HR2.out).mono ?_
  rintro e w3 ⟨rfl, hb3⟩
  have HB3 : Hid (Below w.heap.size w w3) := Lib.hid (HB2.out.trans (hb3.mono HB2.out.size))
  clear hb3
  go_wp2
  go_ret3
  refine ⟨?_, HB3.out⟩
  have e : ((s.size : Int) - (s.size - ((k : Int) + 1))) = ((k + 1 : Nat) : Int) := by omega
  show Ending.returned (.tuple #[.int .i64 (z : Nat), .int .i64 ((s.size : Int) - (s.size - ((k : Int) + 1))), .string ⟨#[]⟩]) = _
  rw [e, HZ.out]
end Go.Proofs.YtgibmkgibkhemaaDoor
