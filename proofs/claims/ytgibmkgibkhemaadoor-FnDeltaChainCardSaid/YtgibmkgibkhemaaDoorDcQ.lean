/- deltaIndex.copyEntries. -/
import Derived.Test.YtgibmkgibkhemaaDoorDcP
import Derived.StillTailTactics
namespace Go.Proofs.YtgibmkgibkhemaaDoor
open Go.RowKit
set_option linter.unusedSimpArgs false
set_option linter.unusedVariables false

abbrev ixT : TypeId := 77
theorem ssum_mono (N T : Nat → Nat) (i : Nat) : ∀ d, ssum N T i ≤ ssum N T (i + d)
  | 0 => Nat.le_refl _
  | d + 1 => Nat.le_trans (ssum_mono N T i d) (by show ssum N T (i + d) ≤ ssum N T (i + d) + _; omega)
/-- The index: its table and its entries. -/
structure IxSt (w : World) (ix tb e2 tn M K : Nat) (T2 E2 : Nat → Nat) (L : Nat) : Prop where
  row : w.heap[ix]? = some (.cells #[.slice (some ⟨tb, 0, none⟩) tn tn, .slice (some ⟨e2, 0, none⟩) M M, .int .i64 ((tn : Int) - 1)] ixT (0, 0))
  t : IR w tb tn T2
  e : IR w e2 M E2
  it : ix ≠ tb
  ie : ix ≠ e2
  te : tb ≠ e2
  tv : ∀ i, i < tn → T2 i < K
  ev : ∀ i, i < M → E2 i ≤ L
theorem IxSt.cells {w : World} {ix tb e2 tn M K : Nat} {T2 E2 : Nat → Nat} {L : Nat} (h : IxSt w ix tb e2 tn M K T2 E2 L) :
    w.cell? ⟨ix, 0, none⟩ = some (.slice (some ⟨tb, 0, none⟩) tn tn) ∧ w.cell? ⟨ix, 1, none⟩ = some (.slice (some ⟨e2, 0, none⟩) M M) ∧ w.cell? ⟨ix, 2, none⟩ = some (.int .i64 ((tn : Int) - 1)) := by
  refine ⟨?_, ?_, ?_⟩ <;> (rw [Lib.cell_of_heap h.row]; rfl)
theorem IxSt.setT {w : World} {ix tb e2 tn M K : Nat} {T2 E2 : Nat → Nat} {L : Nat} (h : IxSt w ix tb e2 tn M K T2 E2 L) {i v : Nat} (hi : i < tn) (hv : v < K) : IxSt (w.setCell ⟨tb, i, none⟩ (.int .i64 (v : Nat))) ix tb e2 tn M K (upd T2 i v) E2 L :=
  ⟨by rw [heap_setCell_other (by exact fun e => h.it e.symm)]; exact h.row, h.t.set hi v, h.e.other h.te _, h.it, h.ie, h.te, fun j hj => by
    unfold upd; split
    · exact hv
    · exact h.tv j hj, h.ev⟩
theorem IxSt.setE {w : World} {ix tb e2 tn M K : Nat} {T2 E2 : Nat → Nat} {L : Nat} (h : IxSt w ix tb e2 tn M K T2 E2 L) {i v : Nat} (hi : i < M) (hv : v ≤ L) : IxSt (w.setCell ⟨e2, i, none⟩ (.int .i64 (v : Nat))) ix tb e2 tn M K T2 (upd E2 i v) L :=
  ⟨by rw [heap_setCell_other (by exact fun e => h.ie e.symm)]; exact h.row, h.t.other (by exact fun e => h.te e.symm) _, h.e.set hi v, h.it, h.ie, h.te, h.tv, fun j hj => by
    unfold upd; split
    · exact hv
    · exact h.ev j hj⟩
/-- What is read of the scanner. -/
structure ScRd (w : World) (sc tb en nx tn m cnt : Nat) (E N : Nat → Nat) : Prop where
  row : w.heap[sc]? = some (.cells (scC tb en nx tn m cnt) scT (0, 0))
  e : IR w en m E
  n : IR w nx m N
theorem ScRd.cells {w : World} {sc tb en nx tn m cnt : Nat} {E N : Nat → Nat} (h : ScRd w sc tb en nx tn m cnt E N) :
    w.cell? ⟨sc, 1, none⟩ = some (.slice (some ⟨en, 0, none⟩) m m) ∧ w.cell? ⟨sc, 2, none⟩ = some (.slice (some ⟨nx, 0, none⟩) m m) := by
  refine ⟨?_, ?_⟩ <;> (rw [Lib.cell_of_heap h.row]; rfl)
theorem ScRd.other {w : World} {sc tb en nx tn m cnt : Nat} {E N : Nat → Nat} (h : ScRd w sc tb en nx tn m cnt E N) {a : Addr} (h1 : a.block ≠ sc) (h2 : a.block ≠ en) (h3 : a.block ≠ nx) (v : Value) : ScRd (w.setCell a v) sc tb en nx tn m cnt E N :=
  ⟨by rw [heap_setCell_other h1]; exact h.row, h.e.other h2 v, h.n.other h3 v⟩
theorem IxSt.drew {w : World} {ix tb e2 tn M K : Nat} {T2 E2 : Nat → Nat} {L : Nat} (h : IxSt w ix tb e2 tn M K T2 E2 L) : IxSt w.drew ix tb e2 tn M K T2 E2 L := ⟨h.row, h.t, h.e, h.it, h.ie, h.te, h.tv, h.ev⟩
theorem ScRd.drew {w : World} {sc tb en nx tn m cnt : Nat} {E N : Nat → Nat} (h : ScRd w sc tb en nx tn m cnt E N) : ScRd w.drew sc tb en nx tn m cnt E N := ⟨h.row, h.e, h.n⟩
theorem below_drew1 {B : Nat} {w w' : World} (h : Below B w w') : Below B w w'.drew := ⟨h.os, h.tape, h.output, h.size, h.block⟩
def CpRel (B sc tb en nx tn m cnt ix e2 M : Nat) (T E N : Nat → Nat) (L i nxt : Nat) (w wr : World) : Prop :=
  ∃ (T2 E2 : Nat → Nat), IxSt wr ix tb e2 tn M (M + cnt + 1) T2 E2 L ∧ ScRd wr sc tb en nx tn m cnt E N ∧ Below B w wr ∧ (∀ j, i ≤ j → j < tn → T2 j = T j) ∧ (∀ j, j < i → T2 j < M)
def CpOut (B sc tb en nx tn m cnt ix e2 M : Nat) (T E N : Nat → Nat) (L : Nat) (w : World) (nv iv : Value) (wr : World) : Prop :=
  ∃ i : Nat, i ≤ tn ∧ iv = .int .i64 (i : Nat) ∧ nv = .int .i64 ((1 + ssum N T i : Nat) : Int) ∧ CpRel B sc tb en nx tn m cnt ix e2 M T E N L i 0 w wr
def CpIn (B sc tb en nx tn m cnt ix e2 M : Nat) (T E N : Nat → Nat) (L i hd : Nat) (w : World) (nv hv : Value) (wr : World) : Prop :=
  ∃ g q : Nat, hv = .int .i64 (g : Nat) ∧ nv = .int .i64 ((1 + ssum N T i + q : Nat) : Int) ∧ g ≠ 0 ∧ g ≤ cnt ∧ q + cl N g = cl N hd ∧ CpRel B sc tb en nx tn m cnt ix e2 M T E N L (i + 1) 0 w wr
def CpPost (B ix tb e2 tn M L : Nat) (w : World) (e : Ending) (w' : World) : Prop :=
  e = .returned (.tuple #[]) ∧ (∃ T2 E2, IxSt w' ix tb e2 tn M M T2 E2 L) ∧ Below B w w'
set_option maxRecDepth 100000 in
set_option maxHeartbeats 8000000 in
theorem copyEntries_any (B sc tb en nx tn m cnt ix e2 M L : Nat) (T E N E2 : Nat → Nat) (w : World) (h : ScSt w sc tb en nx tn m cnt T E N L) (hi : IxSt w ix tb e2 tn M (M + cnt + 1) T E2 L) (hM : M = ssum N T tn + 1) (hlo : B ≤ tb ∧ B ≤ e2)
    (hd1 : e2 ≠ sc) (hd2 : e2 ≠ en) (hd3 : e2 ≠ nx) (ht : tn ≤ 64) (hm : m ≤ 63) :
    Calls Tryd.prog 52 #[.pointer (some ⟨ix, 0, none⟩), .pointer (some ⟨sc, 0, none⟩)] w (CpPost B ix tb e2 tn M L w) := by
  have H := Lib.hid h; have HI := Lib.hid hi; have HM := Lib.hid hM; have HLO := Lib.hid hlo
  have HD : Hid (e2 ≠ sc ∧ e2 ≠ en ∧ e2 ≠ nx) := Lib.hid ⟨hd1, hd2, hd3⟩
  have hc62 : cnt ≤ 62 := by have := h.cm; omega
  have HSS : Hid (∀ i, i ≤ tn → ssum N T i ≤ 4000) := Lib.hid (fun i hi => by
    have := ssum_le N T 62 i (fun q hq => Nat.le_trans (H.out.tv q (by omega)) hc62)
    have : i * 62 ≤ 64 * 62 := Nat.mul_le_mul_right _ (by omega)
    omega)
  clear h hi hM hlo hd1 hd2 hd3
  go_enter Tryd.func52, Tryd.ntmps52
  go_wp2
  go_loopw [4, 5] (fun nv iv wr => CpOut B sc tb en nx tn m cnt ix e2 M T E N L w nv iv wr) (fun _ iv _ => tn - (intOf iv).toNat)
  case atStart => exact ⟨0, Nat.zero_le _, rfl, rfl, T, E2, HI.out, ⟨H.out.row, H.out.e, H.out.n⟩, Below.refl _ _, fun _ _ _ => rfl, fun j hj => by omega⟩
  case round =>
    obtain ⟨i, hi, rfl, rfl, T2, F2, hix, hrd, hbel, hsame, hlow⟩ := hrel
    have hs4 := HSS.out i hi
    have HIX := Lib.hid hix; have HRD := Lib.hid hrd; have HB := Lib.hid hbel; have HSM := Lib.hid hsame; have HLW := Lib.hid hlow
    clear hix hrd hbel hsame hlow
    obtain ⟨f0, f1, f2⟩ := HIX.out.cells
    generalize hs : ssum N T i = s at hs4 ⊢
    have HS := Lib.hid hs
    clear hs
    obtain ⟨v, hv⟩ : ∃ v, v = 1 + s := ⟨_, rfl⟩
    rw [← hv]
    have HV := Lib.hid hv
    have hv4 : v ≤ 4001 := by omega
    clear hv
    by_cases hlt : i < tn
    · have hli : (i : Int) < tn := by omega
      have ct := HIX.out.t.cell hlt
      have hTi := H.out.tv i hlt
      rw [HSM.out i (Nat.le_refl _) hlt] at ct
      generalize hhd : T i = hd at ct hTi
      have HHD := Lib.hid hhd
      clear hhd
      by_cases h0 : hd = 0
      · have HSUM : Hid (ssum N T (i + 1) = s) := Lib.hid (by show ssum N T i + cl N (T i) = s; rw [HHD.out, h0, cl_zero, HS.out]; omega)
        subst h0
        go_wp2
        go_roundw
        case rel => exact ⟨i + 1, by omega, by go_num, by rw [HSUM.out, ← HV.out], T2, F2, HIX.out, HRD.out, HB.out, fun j hj => HSM.out j (by omega), fun j hj => by
          by_cases e : j = i
          · subst e; rw [HSM.out j (Nat.le_refl _) hlt, HHD.out]; have := HM.out; omega
          · exact HLW.out j (by omega)⟩
        case measure => simp [intOf] <;> omega
      · have hz : ((hd : Int) == 0) = false := beq_eq_false_iff_ne.mpr (by omega)
        have hhdm : hd < m := by have := H.out.cm; omega
        have hcl1 := cl_step H.out.nv hhdm h0
        have HSUM : Hid (ssum N T (i + 1) = s + cl N hd) := Lib.hid (by show ssum N T i + cl N (T i) = _; rw [HHD.out, HS.out])
        have hmono : ssum N T (i + 1) ≤ ssum N T tn := by
          have := ssum_mono N T (i + 1) (tn - (i + 1))
          rwa [show i + 1 + (tn - (i + 1)) = tn by omega] at this
        have HMX : Hid (s + cl N hd < M) := Lib.hid (by rw [HM.out, ← HSUM.out]; omega)
        have hsM : v < M := by have := HMX.out; have := HV.out; omega
        have ft := HIX.out.t.free i
        clear hcl1 hmono
        go_upto_region 7 with (fail)
        have IX2 := Lib.hid (HIX.out.setT hlt (show v < M + cnt + 1 by omega))
        have RD2 := Lib.hid (HRD.out.other (a := ⟨tb, i, none⟩) (by exact fun e => H.out.st e.symm) H.out.te H.out.tx (.int .i64 (v : Int)))
        have B2 := Lib.hid (below_setCell HB.out HLO.out.1 i (.int .i64 (v : Int)))
        generalize hw : wr.setCell _ _ = w2
        have hw' : wr.setCell ⟨tb, i, none⟩ (.int .i64 (v : Int)) = w2 := hw
        rw [hw'] at IX2 RD2 B2
        clear hw hw' f0 f1 f2 ct ft
        go_loopw [4, 6] (fun nv hv wr => CpIn B sc tb en nx tn m cnt ix e2 M T E N L i hd w nv hv wr) (fun _ hv _ => (intOf hv).toNat)
        case atStart => exact ⟨hd, 0, rfl, by rw [HS.out, ← HV.out]; rfl, h0, hTi, by omega, _, _, IX2.out, RD2.out, B2.out, fun j hj1 hj2 => by rw [upd_other _ _ _ _ (by omega)]; exact HSM.out j (by omega) hj2, fun j hj => by
          unfold upd; split
          · exact hsM
          · exact HLW.out j (by omega)⟩
        case round =>
          clear HIX HRD HB HSM HLW IX2 RD2 B2
          obtain ⟨g, q, rfl, rfl, hg0, hgc, hql, T3, F3, hix, hrd, hbel, hsame, hlow⟩ := hrel
          have HIX := Lib.hid hix; have HRD := Lib.hid hrd; have HB := Lib.hid hbel; have HSM := Lib.hid hsame; have HLW := Lib.hid hlow
          clear hix hrd hbel hsame hlow
          have hgm : g < m := by have := H.out.cm; omega
          have hcs := cl_step H.out.nv hgm hg0
          have HQL := Lib.hid (show q + 1 + cl N (N g) = cl N hd by omega)
          obtain ⟨p, hp⟩ : ∃ p, p = 1 + ssum N T i + q := ⟨_, rfl⟩
          rw [← hp]
          have hpM : p < M := by have := HMX.out; rw [hp, HS.out]; omega
          have hp4 : p ≤ 5000 := by
            have := HSS.out tn (Nat.le_refl _)
            have := HM.out
            omega
          have HP := Lib.hid hp
          clear hp hcs hql
          obtain ⟨f0, f1, f2⟩ := HIX.out.cells
          obtain ⟨s1, s2⟩ := HRD.out.cells
          have cE := HRD.out.e.cell hgm
          have cN := HRD.out.n.cell hgm
          have hEv := H.out.ev g hgm
          have hnv := H.out.nv g hgm
          have cF := HIX.out.e.cell hpM
          have fF := HIX.out.e.free p
          have hgi : (g : Int) < m := by omega
          have hpi : (p : Int) < M := by omega
          generalize hng : N g = g2 at cN hnv HQL
          generalize heg : E g = eg at cE hEv
          have HG2 := Lib.hid hng
          clear hng heg
          go_upto_region 7 with (fail)
          go_still_tail 13, (by kernel_rfl)
          change wpList _ _ _ _ _ wr.drew
          have IXD := Lib.hid HIX.out.drew; have RDD := Lib.hid HRD.out.drew; have BD := Lib.hid (below_drew1 HB.out)
          clear f0 f1 f2 s1 s2 cE cN cF fF HIX HRD HB
          generalize wr.drew = W at IXD RDD BD ⊢
          have cF := IXD.out.e.cell hpM
          have fF := IXD.out.e.free p
          have IX3 := Lib.hid (IXD.out.setE hpM hEv)
          have RD3 := Lib.hid (RDD.out.other (a := ⟨e2, p, none⟩) HD.out.1 HD.out.2.1 HD.out.2.2 (.int .i64 (eg : Nat)))
          have B3 := Lib.hid (below_setCell BD.out HLO.out.2 p (.int .i64 (eg : Nat)))
          go_upto_region 8 with (fail)
          generalize W.setCell _ _ = W5 at IX3 RD3 B3 ⊢
          clear cF fF IXD RDD BD
          obtain ⟨s1, s2⟩ := RD3.out.cells
          have cN := RD3.out.n.cell hgm
          rw [HG2.out] at cN
          by_cases hg2 : g2 = 0
          · have hz2 : ((g2 : Int) == 0) = true := beq_iff_eq.mpr (by omega)
            have HSUM2 : Hid (((p : Int) + 1) = ((1 + ssum N T (i + 1) : Nat) : Int)) := Lib.hid (by
              have := HQL.out
              rw [hg2, cl_zero] at this
              have := HSUM.out
              have := HP.out
              have := HS.out
              omega)
            go_wp2
            go_roundw
            case rel => exact ⟨i + 1, by omega, by go_num, by rw [← HSUM2.out], _, _, IX3.out, RD3.out, B3.out, HSM.out, HLW.out⟩
            case measure => simp [intOf] <;> omega
          · have hz2 : ((g2 : Int) == 0) = false := beq_eq_false_iff_ne.mpr (by omega)
            go_wp2
            go_roundw
            case rel => exact ⟨g2, q + 1, rfl, by have := HP.out; congr 1; omega, hg2, by omega, HQL.out, _, _, IX3.out, RD3.out, B3.out, HSM.out, HLW.out⟩
            case measure => simp [intOf] <;> omega
    · have hle : ¬ (i : Int) < tn := by omega
      obtain rfl : i = tn := by omega
      go_wp2
      go_returns
      have hix := HIX.out
      exact ⟨rfl, ⟨T2, F2, hix.row, hix.t, hix.e, hix.it, hix.ie, hix.te, HLW.out, hix.ev⟩, HB.out⟩
end Go.Proofs.YtgibmkgibkhemaaDoor
