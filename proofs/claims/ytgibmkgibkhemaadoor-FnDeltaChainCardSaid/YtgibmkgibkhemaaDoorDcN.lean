/- deltaIndexScanner.scan. -/
import Derived.Test.YtgibmkgibkhemaaDoorDcK
import Derived.Test.YtgibmkgibkhemaaDoorDcS
import Derived.Handy
namespace Go.Proofs.YtgibmkgibkhemaaDoor
open Go.RowKit
set_option linter.unusedSimpArgs false
set_option linter.unusedVariables false

theorem i64_and_nat (a b : Nat) (ha : a < 9223372036854775808) (hb : b < 9223372036854775808) : bits .and .i64 (a : Int) (b : Int) = ((a &&& b : Nat) : Int) := by
  have hx : a &&& b < 2 ^ 63 := Nat.and_lt_two_pow _ (by omega)
  have e : ∀ c : Nat, c < 9223372036854775808 → (BitVec.ofInt 64 (c : Int)).toNat = c := fun c hc => by
    rw [BitVec.ofInt_natCast, BitVec.toNat_ofNat]; exact Nat.mod_eq_of_lt (by omega)
  show IntKind.i64.wrap ((BitVec.ofInt 64 (a : Int) &&& BitVec.ofInt 64 (b : Int)).toNat : Int) = _
  rw [BitVec.toNat_and, e a ha, e b hb, IntKind.wrap_i64]
  omega
theorem i64_or_nat (a b : Nat) (ha : a < 9223372036854775808) (hb : b < 9223372036854775808) : bits .or .i64 (a : Int) (b : Int) = ((a ||| b : Nat) : Int) := by
  have hx : a ||| b < 2 ^ 63 := Nat.or_lt_two_pow (by omega) (by omega)
  have e : ∀ c : Nat, c < 9223372036854775808 → (BitVec.ofInt 64 (c : Int)).toNat = c := fun c hc => by
    rw [BitVec.ofInt_natCast, BitVec.toNat_ofNat]; exact Nat.mod_eq_of_lt (by omega)
  show IntKind.i64.wrap ((BitVec.ofInt 64 (a : Int) ||| BitVec.ofInt 64 (b : Int)).toNat : Int) = _
  rw [BitVec.toNat_or, e a ha, e b hb, IntKind.wrap_i64]
  omega
theorem mask_ix (h tn : Nat) (hh : h < 2147483648) (ht : 1 ≤ tn) (ht2 : tn ≤ 64) : ∃ u : Nat, bits .and .i64 (h : Int) ((tn : Int) - 1) = (u : Int) ∧ u < tn := by
  have e : (tn : Int) - 1 = ((tn - 1 : Nat) : Int) := by omega
  rw [e]
  refine ⟨h &&& (tn - 1), i64_and_nat _ _ (by omega) (by omega), ?_⟩
  have : h &&& (tn - 1) ≤ tn - 1 := Nat.and_le_right
  omega
abbrev scT : TypeId := 121
/-- The cells of a scanner. -/
def scC (tb en nx tn m cnt : Nat) : Array Value := #[.slice (some ⟨tb, 0, none⟩) tn tn, .slice (some ⟨en, 0, none⟩) m m, .slice (some ⟨nx, 0, none⟩) m m, .int .i64 ((tn : Int) - 1), .int .i64 (cnt : Nat)]
structure ScSt (w : World) (sc tb en nx tn m cnt : Nat) (T E N : Nat → Nat) (L : Nat) : Prop where
  row : w.heap[sc]? = some (.cells (scC tb en nx tn m cnt) scT (0, 0))
  t : IR w tb tn T
  e : IR w en m E
  n : IR w nx m N
  st : sc ≠ tb
  se : sc ≠ en
  sn : sc ≠ nx
  te : tb ≠ en
  tx : tb ≠ nx
  ex : en ≠ nx
  cm : cnt < m
  tv : ∀ i, i < tn → T i ≤ cnt
  nv : ∀ i, i < m → N i ≤ i - 1
  ev : ∀ i, i < m → E i ≤ L
theorem ScSt.lt {w : World} {sc tb en nx tn m cnt : Nat} {T E N : Nat → Nat} {L : Nat} (h : ScSt w sc tb en nx tn m cnt T E N L) : sc < w.heap.size := (Array.getElem?_eq_some_iff.1 h.row).1
theorem ScSt.below {w w' : World} {sc tb en nx tn m cnt : Nat} {T E N : Nat → Nat} {L : Nat} (h : ScSt w sc tb en nx tn m cnt T E N L) (hb : Below w.heap.size w w') : ScSt w' sc tb en nx tn m cnt T E N L :=
  ⟨(hb.block sc h.lt).trans h.row, h.t.below hb h.t.lt, h.e.below hb h.e.lt, h.n.below hb h.n.lt, h.st, h.se, h.sn, h.te, h.tx, h.ex, h.cm, h.tv, h.nv, h.ev⟩
theorem ScSt.cells {w : World} {sc tb en nx tn m cnt : Nat} {T E N : Nat → Nat} {L : Nat} (h : ScSt w sc tb en nx tn m cnt T E N L) :
    w.cell? ⟨sc, 0, none⟩ = some (.slice (some ⟨tb, 0, none⟩) tn tn) ∧ w.cell? ⟨sc, 1, none⟩ = some (.slice (some ⟨en, 0, none⟩) m m) ∧ w.cell? ⟨sc, 2, none⟩ = some (.slice (some ⟨nx, 0, none⟩) m m) ∧ w.cell? ⟨sc, 3, none⟩ = some (.int .i64 ((tn : Int) - 1)) ∧ w.cell? ⟨sc, 4, none⟩ = some (.int .i64 (cnt : Nat)) ∧ w.frozen? ⟨sc, 4, none⟩ = false := by
  refine ⟨?_, ?_, ?_, ?_, ?_, Lib.frozen_of_heap h.row 4⟩ <;> (rw [Lib.cell_of_heap h.row]; rfl)
/-- A block is met again: its first place now. -/
theorem ScSt.again {w : World} {sc tb en nx tn m cnt : Nat} {T E N : Nat → Nat} {L : Nat} (h : ScSt w sc tb en nx tn m cnt T E N L) {hd p : Nat} (hhd : hd < m) (hp : p ≤ L) : ScSt (w.setCell ⟨en, hd, none⟩ (.int .i64 (p : Nat))) sc tb en nx tn m cnt T (upd E hd p) N L :=
  ⟨by rw [heap_setCell_other (by exact fun e => h.se e.symm)]; exact h.row, h.t.other (by exact fun e => h.te e.symm) _, h.e.set hhd p, h.n.other h.ex _, h.st, h.se, h.sn, h.te, h.tx, h.ex, h.cm, h.tv, h.nv, fun i hi => by
    unfold upd; split
    · exact hp
    · exact h.ev i hi⟩
/-- The count goes up. -/
theorem ScSt.count {w : World} {sc tb en nx tn m cnt : Nat} {T E N : Nat → Nat} {L : Nat} (h : ScSt w sc tb en nx tn m cnt T E N L) (hc : cnt + 1 < m) : ScSt (w.setCell ⟨sc, 4, none⟩ (.int .i64 ((cnt + 1 : Nat) : Int))) sc tb en nx tn m (cnt + 1) T E N L :=
  ⟨heap_setCell_same h.row _, h.t.other h.st _, h.e.other h.se _, h.n.other h.sn _, h.st, h.se, h.sn, h.te, h.tx, h.ex, hc, fun i hi => Nat.le_succ_of_le (h.tv i hi), h.nv, h.ev⟩
theorem ScSt.chain {w : World} {sc tb en nx tn m cnt : Nat} {T E N : Nat → Nat} {L : Nat} (h : ScSt w sc tb en nx tn m cnt T E N L) {hd : Nat} (hhd : hd ≤ cnt - 1) : ScSt (w.setCell ⟨nx, cnt, none⟩ (.int .i64 (hd : Nat))) sc tb en nx tn m cnt T E (upd N cnt hd) L :=
  ⟨by rw [heap_setCell_other (by exact fun e => h.sn e.symm)]; exact h.row, h.t.other (by exact fun e => h.tx e.symm) _, h.e.other (by exact fun e => h.ex e.symm) _, h.n.set h.cm hd, h.st, h.se, h.sn, h.te, h.tx, h.ex, h.cm, h.tv, fun i hi => by
    unfold upd; split
    · rename_i e; rw [e]; exact hhd
    · exact h.nv i hi, h.ev⟩
theorem ScSt.first {w : World} {sc tb en nx tn m cnt : Nat} {T E N : Nat → Nat} {L : Nat} (h : ScSt w sc tb en nx tn m cnt T E N L) {u : Nat} (hu : u < tn) : ScSt (w.setCell ⟨tb, u, none⟩ (.int .i64 (cnt : Nat))) sc tb en nx tn m cnt (upd T u cnt) E N L :=
  ⟨by rw [heap_setCell_other (by exact fun e => h.st e.symm)]; exact h.row, h.t.set hu cnt, h.e.other h.te _, h.n.other h.tx _, h.st, h.se, h.sn, h.te, h.tx, h.ex, h.cm, fun i hi => by
    unfold upd; split
    · exact Nat.le_refl _
    · exact h.tv i hi, h.nv, h.ev⟩
def ScanPost (B sc tb en nx tn m : Nat) (L : Nat) (w : World) (e : Ending) (w' : World) : Prop :=
  e = .returned (.tuple #[]) ∧ ∃ (cnt : Nat) (T E N : Nat → Nat), ScSt w' sc tb en nx tn m cnt T E N L ∧ Below B w w'
def ScRel (B sc tb en nx tn m k n : Nat) (w : World) (lv pv : Value) (wr : World) : Prop :=
  ∃ (j cnt : Nat) (z : Int) (T E N : Nat → Nat), j < k ∧ lv = .int .i64 z ∧ pv = .int .i64 ((16 * (k - 1 - j) : Nat) : Int) ∧ cnt ≤ j ∧ ScSt wr sc tb en nx tn m cnt T E N n ∧ Below B w wr ∧ B ≤ wr.heap.size
set_option maxRecDepth 100000 in
set_option maxHeartbeats 16000000 in
theorem scan_any (B sc tb en nx tn m rb n c k : Nat) (S : List Nat) (T E N : Nat → Nat) (w : World) (h : ScSt w sc tb en nx tn m 0 T E N S.length) (hB : B ≤ w.heap.size) (hlo : B ≤ sc ∧ B ≤ tb ∧ B ≤ en ∧ B ≤ nx) (ht1 : 1 ≤ tn) (ht2 : tn ≤ 64) (hm : m = k + 1) (hk : 1 ≤ k)
    (hks : 16 * k ≤ S.length) (hS : S.length ≤ 1000) (hS2 : ∀ i, S.getD i 0 < 256) (hn : n = S.length) (hrb : rb < B) (hbr : BR w rb S) :
    Calls Tryd.prog 60 #[.pointer (some ⟨sc, 0, none⟩), .slice (some ⟨rb, 0, none⟩) n c, .int .i64 ((16 * k : Nat) : Int)] w (ScanPost B sc tb en nx tn m S.length w) := by
  have HS := Lib.hid h; have HBR := Lib.hid hbr; have HS2 := Lib.hid hS2; have HLO := Lib.hid hlo
  obtain ⟨L, hL⟩ : ∃ L, L = S.length := ⟨_, rfl⟩
  have HL := Lib.hid hL
  rw [← hL] at HS hks hS hn ⊢
  subst hn
  have hkm : k < m := by omega
  clear hm
  clear h hbr hS2 hL hlo
  go_enter Tryd.func60, Tryd.ntmps60
  go_wp2
  go_loopw [6, 7] (fun lv pv wr => ScRel B sc tb en nx tn m k n w lv pv wr) (fun _ pv _ => (intOf pv).toNat)
  case atStart => exact ⟨0, 0, 0, T, E, N, hk, rfl, by congr 1; omega, Nat.le_refl _, HS.out, Below.refl _ _, hB⟩
  case round =>
    obtain ⟨j, cnt, z, T, E, N, hj, rfl, rfl, hcj, hst, hbel, hBr⟩ := hrel
    obtain ⟨p, hp⟩ : ∃ p, p = 16 * (k - 1 - j) := ⟨_, rfl⟩
    rw [← hp]
    have hp2 : p + 16 ≤ n := by omega
    have HP := Lib.hid hp
    have hp1000 : p ≤ 1000 := by omega
    have hpj : p = 16 * (k - 1 - j) ∧ (j + 1 < k → p = 16 * (k - 1 - (j + 1)) + 16) ∧ (¬ j + 1 < k → p = 0) := by omega
    have HPJ := Lib.hid hpj
    clear hp hpj
    have HH := Lib.hid (hashBlock_any rb n c p (fun q => S.getD (p + q) 0) wr (fun q => HS2.out _) hp2 (by omega) (by omega) (fun q hq => by
      rw [hbel.cell (p := ⟨rb, p + q, none⟩) hrb]
      exact HBR.out.2 (p + q) (by rw [← HL.out]; omega)))
    have HST := Lib.hid hst; have HB := Lib.hid hbel
    clear hst hbel
    go_wp2_with fail
    with_reducible refine HH.out.mono ?_
    rintro e w1 ⟨hsh, rfl, hh, hb1⟩
    have S1 := Lib.hid (HST.out.below hb1)
    have B1 : Hid (Below B w w1) := Lib.hid (HB.out.trans (hb1.mono hBr))
    have Z1 : B ≤ w1.heap.size := Nat.le_trans hBr hb1.size
    clear hb1 HST HB HH
    obtain ⟨u, hu, hut⟩ := mask_ix hsh tn hh ht1 ht2
    obtain ⟨f0, f1, f2, f3, f4, g4⟩ := S1.out.cells
    have ct := S1.out.t.cell hut
    have hTu : T u ≤ cnt := S1.out.tv u hut
    have hcm := S1.out.cm
    generalize hhd : T u = hd at ct hTu
    have HHD := Lib.hid hhd
    clear hhd
    have huti : (u : Int) < tn := by omega
    by_cases h0 : hd = 0
    · have q0 : ((hd : Int) == 0) = true := beq_iff_eq.mpr (by omega)
      have q1 : ((hd : Int) != 0) = false := by simp [h0]
      go_upto_region 8 with (fail)
      have S2 := Lib.hid (S1.out.count (by omega))
      have B2 := Lib.hid (below_setCell B1.out HLO.out.1 4 (.int .i64 ((cnt + 1 : Nat) : Int)))
      have Z2 : B ≤ (w1.setCell ⟨sc, 4, none⟩ (.int .i64 ((cnt + 1 : Nat) : Int))).heap.size := by simpa [World.setCell] using Z1
      generalize hw2 : w1.setCell _ _ = w2
      have hw2' : w1.setCell ⟨sc, 4, none⟩ (.int .i64 ((cnt + 1 : Nat) : Int)) = w2 := hw2
      rw [hw2'] at S2 B2 Z2
      clear hw2 hw2' f0 f1 f2 f3 f4 g4 ct
      obtain ⟨f0, f1, f2, f3, f4, g4⟩ := S2.out.cells
      have ce := S2.out.e.cell S2.out.cm
      have fe := S2.out.e.free (cnt + 1)
      have hci : (cnt : Int) + 1 < m := by omega
      go_upto_region 10 with (fail)
      have S3 := Lib.hid (S2.out.again (hd := cnt + 1) (p := p) S2.out.cm (by omega))
      have B3 := Lib.hid (below_setCell B2.out HLO.out.2.2.1 (cnt + 1) (.int .i64 (p : Nat)))
      have Z3 : B ≤ (w2.setCell ⟨en, cnt + 1, none⟩ (.int .i64 (p : Nat))).heap.size := by simpa [World.setCell] using Z2
      generalize hw : w2.setCell _ _ = w3
      have hw' : w2.setCell ⟨en, cnt + 1, none⟩ (.int .i64 (p : Nat)) = w3 := hw
      rw [hw'] at S3 B3 Z3
      clear hw hw'
      clear f0 f1 f2 f3 f4 g4 ce fe
      obtain ⟨f0, f1, f2, f3, f4, g4⟩ := S3.out.cells
      have ce := S3.out.n.cell S3.out.cm
      have fe := S3.out.n.free (cnt + 1)
      go_upto_region 11 with (fail)
      have S4 := Lib.hid (S3.out.chain (hd := hd) (by omega))
      have B4 := Lib.hid (below_setCell B3.out HLO.out.2.2.2 (cnt + 1) (.int .i64 (hd : Nat)))
      have Z4 : B ≤ (w3.setCell ⟨nx, cnt + 1, none⟩ (.int .i64 (hd : Nat))).heap.size := by simpa [World.setCell] using Z3
      generalize hw : w3.setCell _ _ = w4
      have hw' : w3.setCell ⟨nx, cnt + 1, none⟩ (.int .i64 (hd : Nat)) = w4 := by first | exact hw | (rw [h0]; exact hw)
      rw [hw'] at S4 B4 Z4
      clear hw hw'
      clear f0 f1 f2 f3 f4 g4 ce fe
      obtain ⟨f0, f1, f2, f3, f4, g4⟩ := S4.out.cells
      have ce := S4.out.t.cell hut
      have fe := S4.out.t.free u
      go_upto_region 12 with (fail)
      have S5 := Lib.hid (S4.out.first hut)
      have B5 := Lib.hid (below_setCell B4.out HLO.out.2.1 u (.int .i64 ((cnt + 1 : Nat) : Int)))
      have Z5 : B ≤ (w4.setCell ⟨tb, u, none⟩ (.int .i64 ((cnt + 1 : Nat) : Int))).heap.size := by simpa [World.setCell] using Z4
      generalize hw5 : w4.setCell _ _ = w5
      have hw5' : w4.setCell ⟨tb, u, none⟩ (.int .i64 ((cnt + 1 : Nat) : Int)) = w5 := hw5
      rw [hw5'] at S5 B5 Z5
      clear hw5 hw5' f0 f1 f2 f3 f4 g4 ce fe
      by_cases hlast : j + 1 < k
      · have hpe := HPJ.out.2.1 hlast
        have hneg : ¬ (p : Int) - 16 < 0 := by omega
        have HPE := Lib.hid hpe
        clear hpe
        go_wp2
        go_roundw
        case rel => exact ⟨j + 1, cnt + 1, _, _, _, _, hlast, rfl, by congr 1; have := HPE.out; omega, by omega, S5.out, B5.out, Z5⟩
        case measure => have := HPE.out; simp [intOf] <;> omega
      · have hneg : (p : Int) - 16 < 0 := by have := HPJ.out.2.2 hlast; omega
        go_wp2
        go_returns
        exact ⟨rfl, cnt + 1, _, _, _, S5.out, B5.out⟩
    · have q0 : ((hd : Int) == 0) = false := beq_eq_false_iff_ne.mpr (by omega)
      have q1 : ((hd : Int) != 0) = true := by simp; omega
      by_cases hz : z = (hsh : Int)
      · have q2 : (z == (hsh : Int)) = true := beq_iff_eq.mpr hz
        have HZ := Lib.hid hz
        clear hz
        have ce := S1.out.e.cell (i := hd) (by omega)
        have fe := S1.out.e.free hd
        have hdm : (hd : Int) < m := by omega
        go_upto_region 12 with (fail)
        have S5 := Lib.hid (S1.out.again (hd := hd) (p := p) (by omega) (by omega))
        have B5 := Lib.hid (below_setCell B1.out HLO.out.2.2.1 hd (.int .i64 (p : Nat)))
        have Z5 : B ≤ (w1.setCell ⟨en, hd, none⟩ (.int .i64 (p : Nat))).heap.size := by simpa [World.setCell] using Z1
        generalize hw : w1.setCell _ _ = w5
        have hw' : w1.setCell ⟨en, hd, none⟩ (.int .i64 (p : Nat)) = w5 := hw
        rw [hw'] at S5 B5 Z5
        clear hw hw'
        clear ce fe f0 f1 f2 f3 f4 g4 ct
        by_cases hlast : j + 1 < k
        · have hpe := HPJ.out.2.1 hlast
          have hneg : ¬ (p : Int) - 16 < 0 := by omega
          have HPE := Lib.hid hpe
          clear hpe
          go_wp2
          go_roundw
          case rel => exact ⟨j + 1, cnt, _, _, _, _, hlast, rfl, by congr 1; have := HPE.out; omega, by omega, S5.out, B5.out, Z5⟩
          case measure => have := HPE.out; simp [intOf] <;> omega
        · have hneg : (p : Int) - 16 < 0 := by have := HPJ.out.2.2 hlast; omega
          go_wp2
          go_returns
          exact ⟨rfl, cnt, _, _, _, S5.out, B5.out⟩
      · have q2 : (z == (hsh : Int)) = false := beq_eq_false_iff_ne.mpr hz
        clear hz
        go_upto_region 8 with (fail)
        have S2 := Lib.hid (S1.out.count (by omega))
        have B2 := Lib.hid (below_setCell B1.out HLO.out.1 4 (.int .i64 ((cnt + 1 : Nat) : Int)))
        have Z2 : B ≤ (w1.setCell ⟨sc, 4, none⟩ (.int .i64 ((cnt + 1 : Nat) : Int))).heap.size := by simpa [World.setCell] using Z1
        generalize hw2 : w1.setCell _ _ = w2
        have hw2' : w1.setCell ⟨sc, 4, none⟩ (.int .i64 ((cnt + 1 : Nat) : Int)) = w2 := hw2
        rw [hw2'] at S2 B2 Z2
        clear hw2 hw2' f0 f1 f2 f3 f4 g4 ct
        obtain ⟨f0, f1, f2, f3, f4, g4⟩ := S2.out.cells
        have ce := S2.out.e.cell S2.out.cm
        have fe := S2.out.e.free (cnt + 1)
        have hci : (cnt : Int) + 1 < m := by omega
        go_upto_region 10 with (fail)
        have S3 := Lib.hid (S2.out.again (hd := cnt + 1) (p := p) S2.out.cm (by omega))
        have B3 := Lib.hid (below_setCell B2.out HLO.out.2.2.1 (cnt + 1) (.int .i64 (p : Nat)))
        have Z3 : B ≤ (w2.setCell ⟨en, cnt + 1, none⟩ (.int .i64 (p : Nat))).heap.size := by simpa [World.setCell] using Z2
        generalize hw : w2.setCell _ _ = w3
        have hw' : w2.setCell ⟨en, cnt + 1, none⟩ (.int .i64 (p : Nat)) = w3 := hw
        rw [hw'] at S3 B3 Z3
        clear hw hw'
        clear f0 f1 f2 f3 f4 g4 ce fe
        obtain ⟨f0, f1, f2, f3, f4, g4⟩ := S3.out.cells
        have ce := S3.out.n.cell S3.out.cm
        have fe := S3.out.n.free (cnt + 1)
        go_upto_region 11 with (fail)
        have S4 := Lib.hid (S3.out.chain (hd := hd) (by omega))
        have B4 := Lib.hid (below_setCell B3.out HLO.out.2.2.2 (cnt + 1) (.int .i64 (hd : Nat)))
        have Z4 : B ≤ (w3.setCell ⟨nx, cnt + 1, none⟩ (.int .i64 (hd : Nat))).heap.size := by simpa [World.setCell] using Z3
        generalize hw : w3.setCell _ _ = w4
        have hw' : w3.setCell ⟨nx, cnt + 1, none⟩ (.int .i64 (hd : Nat)) = w4 := by first | exact hw | (rw [h0]; exact hw)
        rw [hw'] at S4 B4 Z4
        clear hw hw'
        clear f0 f1 f2 f3 f4 g4 ce fe
        obtain ⟨f0, f1, f2, f3, f4, g4⟩ := S4.out.cells
        have ce := S4.out.t.cell hut
        have fe := S4.out.t.free u
        go_upto_region 12 with (fail)
        have S5 := Lib.hid (S4.out.first hut)
        have B5 := Lib.hid (below_setCell B4.out HLO.out.2.1 u (.int .i64 ((cnt + 1 : Nat) : Int)))
        have Z5 : B ≤ (w4.setCell ⟨tb, u, none⟩ (.int .i64 ((cnt + 1 : Nat) : Int))).heap.size := by simpa [World.setCell] using Z4
        generalize hw5 : w4.setCell _ _ = w5
        have hw5' : w4.setCell ⟨tb, u, none⟩ (.int .i64 ((cnt + 1 : Nat) : Int)) = w5 := hw5
        rw [hw5'] at S5 B5 Z5
        clear hw5 hw5' f0 f1 f2 f3 f4 g4 ce fe
        by_cases hlast : j + 1 < k
        · have hpe := HPJ.out.2.1 hlast
          have hneg : ¬ (p : Int) - 16 < 0 := by omega
          have HPE := Lib.hid hpe
          clear hpe
          go_wp2
          go_roundw
          case rel => exact ⟨j + 1, cnt + 1, _, _, _, _, hlast, rfl, by congr 1; have := HPE.out; omega, by omega, S5.out, B5.out, Z5⟩
          case measure => have := HPE.out; simp [intOf] <;> omega
        · have hneg : (p : Int) - 16 < 0 := by have := HPJ.out.2.2 hlast; omega
          go_wp2
          go_returns
          exact ⟨rfl, cnt + 1, _, _, _, S5.out, B5.out⟩
end Go.Proofs.YtgibmkgibkhemaaDoor
