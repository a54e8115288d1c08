/- patchDelta at the one delta that packAwake holds. -/
import Derived.Test.YtgibmkgibkhemaaDoorBuf
import Derived.Outline
namespace Go.Proofs.YtgibmkgibkhemaaDoor
open Go.RowKit
set_option linter.unusedSimpArgs false
set_option linter.unusedVariables false

def awD : List Nat := [6, 5, 145, 1, 3, 2, 120, 121]
def awS : List Nat := [97, 98, 99, 100, 101, 102]
def u8s (l : List Nat) : List Value := l.map fun x => Value.int .u8 (x : Nat)

theorem awMin (w : World) : (Builtin.min_ #[37, 37] 37 #[.int .u64 5, .int .u64 65536]).run Tryd.prog w = .ok (.int .u64 5) w := by kernel_rfl

/-- The buffer and what is left of the delta, at the loop's head. -/
def AwSt (B b db : Nat) (w : World) (d m : Value) (wr : World) : Prop :=
  Below B w wr ∧ B ≤ wr.heap.size ∧
  ((∃ C : Nat, 6 ≤ C ∧ C ≤ 9223372036854775807 ∧ d = .slice (some ⟨db, 2, none⟩) 6 C ∧ m = .int .u64 5 ∧ IsBuf B b [] wr) ∨
   (∃ C : Nat, 3 ≤ C ∧ C ≤ 9223372036854775807 ∧ d = .slice (some ⟨db, 5, none⟩) 3 C ∧ m = .int .u64 2 ∧ IsBuf B b (u8s [98, 99, 100]) wr) ∨
   (∃ (A : Option Addr) (C : Nat), d = .slice A 0 C ∧ m = .int .u64 0 ∧ IsBuf B b (u8s [98, 99, 100, 120, 121]) wr))
def awMeasure : Value → Nat
  | .int _ n => n.toNat
  | _ => 0

def DecA (z : Int) (db o n : Nat) (w : World) (e : Ending) (w' : World) : Prop :=
  ∃ C : Nat, e = .returned (.tuple #[.int .u64 z, .slice (some ⟨db, o, none⟩) n C, .nilIface]) ∧ n ≤ C ∧ C ≤ 9223372036854775807 ∧ Below w.heap.size w w'
theorem dec_first (db c2 : Nat) (w : World) (hc2 : 8 ≤ c2) (hc2m : c2 ≤ 9223372036854775807) (hd : ∀ i, i < 8 → w.cell? ⟨db, i, none⟩ = some (.int .u8 (awD.getD i 0 : Nat))) :
    Calls Tryd.prog 22 #[.slice (some ⟨db, 0, none⟩) 8 c2] w (DecA 6 db 1 7 w) :=
  (decode_any db 0 8 c2 0 (fun i => awD.getD i 0) w (by omega) (by omega) (by omega) (by omega) (by omega) (by decide) (by intro i hi; omega) (by decide) (fun i hi => by rw [Nat.zero_add]; exact hd i hi)).mono (by
    rintro e w1 ⟨o1, C1, rfl, q1, q2, q3, hb1⟩
    obtain rfl : o1 = 1 := q3 (by decide)
    exact ⟨C1, rfl, q1, q2, hb1⟩)
theorem dec_second (db c : Nat) (w : World) (hc2 : 7 ≤ c) (hc2m : c ≤ 9223372036854775807) (hd : ∀ i, i < 8 → w.cell? ⟨db, i, none⟩ = some (.int .u8 (awD.getD i 0 : Nat))) :
    Calls Tryd.prog 22 #[.slice (some ⟨db, 1, none⟩) 7 c] w (DecA 5 db 2 6 w) :=
  (decode_any db 1 7 c 0 (fun i => awD.getD (1 + i) 0) w (by omega) (by omega) (by omega) (by omega) (by omega) (by decide) (by intro i hi; omega) (by decide) (fun i hi => hd (1 + i) (by omega))).mono (by
    rintro e w1 ⟨o1, C1, rfl, q1, q2, q3, hb1⟩
    obtain rfl : o1 = 2 := q3 (by decide)
    exact ⟨C1, rfl, q1, q2, hb1⟩)
theorem grow5 (B b : Nat) (w : World) (h : IsBuf B b [] w) (hnr : Lib.NoRoom b 5 w) (hBw : B ≤ w.heap.size) :
    Calls Tryd.prog 29 #[.pointer (some ⟨b, 0, none⟩), .int .i64 5] w fun e w' => e = .returned (.tuple #[]) ∧ IsBuf B b [] w' ∧ Below B w w' :=
  buf_Grow B b 5 w h hnr hBw (by decide) (by decide)

def CmdA (z : Int) (db o n c : Nat) (w : World) (e : Ending) (w' : World) : Prop :=
  e = .returned (.tuple #[.int .u64 z, .slice (some ⟨db, o, none⟩) n c, .nilIface]) ∧ Below w.heap.size w w'
theorem off_aw (db c : Nat) (w : World) (hc : 5 ≤ c) (hc2 : c ≤ 9223372036854775807) (hb : db < w.heap.size) (hcell : w.cell? ⟨db, 3, none⟩ = some (.int .u8 1)) :
    Calls Tryd.prog 31 #[.int .u8 145, .slice (some ⟨db, 3, none⟩) 5 c] w (CmdA 1 db 4 4 (c - 1) w) :=
  decodeOff_145 db 3 5 c 1 w (by decide) (by decide) (by omega) hc hc2 (by decide) hb hcell
theorem size_aw (db c : Nat) (w : World) (hc : 4 ≤ c) (hc2 : c ≤ 9223372036854775807) (hb : db < w.heap.size) (hcell : w.cell? ⟨db, 4, none⟩ = some (.int .u8 3)) :
    Calls Tryd.prog 32 #[.int .u8 145, .slice (some ⟨db, 4, none⟩) 4 c] w (CmdA 3 db 5 3 (c - 1) w) :=
  decodeSize_145 db 4 4 c 3 w (by decide) (by decide) (by omega) hc hc2 (by decide) (by decide) hb hcell
theorem inv35 (w : World) : Calls Tryd.prog 33 #[.int .u64 3, .int .u64 5] w fun e w' => e = .returned (.bool false) ∧ w = w' := invalidSize_any 3 5 w
theorem inv22 (w : World) : Calls Tryd.prog 33 #[.int .u64 2, .int .u64 2] w fun e w' => e = .returned (.bool false) ∧ w = w' := invalidSize_any 2 2 w
theorem inv136 (w : World) : Calls Tryd.prog 34 #[.int .u64 1, .int .u64 3, .int .u64 6] w fun e w' => e = .returned (.bool false) ∧ w = w' := invalidOffset_no 1 3 6 w (by decide) (by decide)
theorem u8s_one (l : List Nat) : ∀ v ∈ u8s l, v.oneCell' = true := by
  intro v hv
  obtain ⟨x, _, rfl⟩ := List.mem_map.mp hv
  rfl
theorem write_aw (B b sb o n c : Nat) (bs cs : List Nat) (w : World) (h : IsBuf B b (u8s bs) w) (hBw : B ≤ w.heap.size) (hn : cs.length = n) (hsb : sb < B) (hl : bs.length + n ≤ 1000)
    (hsrc : ∀ j, j < n → w.cell? ⟨sb, o + j, none⟩ = some (.int .u8 (cs.getD j 0 : Nat))) :
    Calls Tryd.prog 35 #[.pointer (some ⟨b, 0, none⟩), .slice (some ⟨sb, o, none⟩) n c] w fun e w' => e = .returned (.tuple #[.int .i64 n, .nilIface]) ∧ IsBuf B b (u8s (bs ++ cs)) w' ∧ Below B w w' :=
  (buf_write B b (u8s bs) (u8s cs) ⟨sb, o, none⟩ n c w h hBw (u8s_one bs) (by unfold u8s; rw [List.length_map]; exact hn) hsb (by
    intro j v hj
    have hjl : j < n := by
      have := (List.getElem?_eq_some_iff.mp hj).1
      unfold u8s at this
      rw [List.length_map] at this
      omega
    unfold u8s at hj
    rw [List.getElem?_map, List.getElem?_eq_getElem (by omega)] at hj
    have hj2 := Option.some.inj hj
    dsimp only at hj2
    have hadd : (⟨sb, o, none⟩ : Addr).add j = ⟨sb, o + j, none⟩ := by unfold Addr.add; split <;> simp_all
    rw [hadd, hsrc j hjl, List.getD_eq_getElem?_getD, List.getElem?_eq_getElem (by omega), ← hj2]
    rfl) (u8s_one cs) (by unfold u8s; rw [List.length_map]; omega)).mono (by
    rintro e w' ⟨q1, q2, q3⟩
    refine ⟨q1, ?_, q3⟩
    unfold u8s at q2 ⊢
    rw [List.map_append]
    exact q2)

set_option maxRecDepth 100000 in
set_option maxHeartbeats 4000000 in
theorem patchDelta_aw (B b sb db c1 c2 : Nat) (w : World) (h : IsBuf B b [] w) (hnr : Lib.NoRoom b 5 w) (hBw : B ≤ w.heap.size) (hsb : sb < B) (hdb : db < B)
    (hc1 : 6 ≤ c1) (hc1m : c1 ≤ 9223372036854775807) (hc2 : 8 ≤ c2) (hc2m : c2 ≤ 9223372036854775807)
    (hs : ∀ i, i < 6 → w.cell? ⟨sb, i, none⟩ = some (.int .u8 (awS.getD i 0 : Nat))) (hd : ∀ i, i < 8 → w.cell? ⟨db, i, none⟩ = some (.int .u8 (awD.getD i 0 : Nat))) :
    Calls Tryd.prog 24 #[.pointer (some ⟨b, 0, none⟩), .slice (some ⟨sb, 0, none⟩) 6 c1, .slice (some ⟨db, 0, none⟩) 8 c2] w fun e w' => e = .returned .nilIface ∧ IsBuf B b (u8s [98, 99, 100, 120, 121]) w' ∧ Below B w w' := by
  have HS := Lib.hid hs; have HD := Lib.hid hd; have HI := Lib.hid h; have HNR := Lib.hid hnr
  clear hs hd h hnr
  go_enter Tryd.func24, Tryd.ntmps24
  go_wp2_with fail
  with_reducible refine (dec_first db c2 w hc2 hc2m HD.out).mono ?_
  rintro e w1 ⟨C1, rfl, q1, q2, hb1⟩
  have HB1 := Lib.hid hb1; clear hb1
  have hD1 : Hid (∀ i, i < 8 → w1.cell? ⟨db, i, none⟩ = some (.int .u8 (awD.getD i 0 : Nat))) := Lib.hid (fun i hi => by
    rw [HB1.out.cell (p := ⟨db, i, none⟩) (by show db < _; omega)]
    exact HD.out i hi)
  go_wp2_with fail
  with_reducible refine (dec_second db C1 w1 q1 q2 hD1.out).mono ?_
  rintro e w2 ⟨C2, rfl, p1, p2, hb2⟩
  have HB2 : Hid (Below w.heap.size w w2) := Lib.hid (HB1.out.trans (hb2.mono HB1.out.size))
  clear hb2 HB1 hD1 q1 q2
  have hI2 : Hid (IsBuf B b [] w2) := Lib.hid (Lib.IsBuffer.old HI.out HB2.out)
  have hNR2 : Hid (Lib.NoRoom b 5 w2) := Lib.hid (by
    obtain ⟨ao, l, cap, hcl, hlt⟩ := HNR.out
    exact ⟨ao, l, cap, (HB2.out.cell (p := ⟨b, 0, none⟩) HI.out.lt).trans hcl, hlt⟩)
  have hBw2 : B ≤ w2.heap.size := Nat.le_trans hBw HB2.out.size
  have hmin := awMin
  go_wp2_with fail
  with_reducible refine (grow5 B b w2 hI2.out hNR2.out hBw2).mono ?_
  rintro e w3 ⟨rfl, hI3, hb3⟩
  clear hmin hI2 hNR2
  have HI3 := Lib.hid hI3; clear hI3
  have HB3 : Hid (Below B w w3) := Lib.hid ((HB2.out.mono hBw).trans hb3)
  have hBw3 : B ≤ w3.heap.size := Nat.le_trans hBw2 hb3.size
  clear hb3 HB2
  go_wp2
  go_loopw [2, 10] (fun d m wr => AwSt B b db w d m wr) (fun _ m _ => awMeasure m)
  case atStart => exact ⟨HB3.out, hBw3, .inl ⟨C2, p1, p2, rfl, rfl, HI3.out⟩⟩
  case round =>
    clear HB3 HI3 p1 p2 hBw3 hBw2
    obtain ⟨hbel, hBr, hst⟩ := hrel
    have HB := Lib.hid hbel; clear hbel
    have hcells : Hid (∀ i, i < 8 → wr.cell? ⟨db, i, none⟩ = some (.int .u8 (awD.getD i 0 : Nat))) := Lib.hid (fun i hi => by
      rw [HB.out.cell (p := ⟨db, i, none⟩) hdb]
      exact HD.out i hi)
    have hsrc : Hid (∀ i, i < 6 → wr.cell? ⟨sb, i, none⟩ = some (.int .u8 (awS.getD i 0 : Nat))) := Lib.hid (fun i hi => by
      rw [HB.out.cell (p := ⟨sb, i, none⟩) hsb]
      exact HS.out i hi)
    rcases hst with ⟨C, hC1, hC2, rfl, rfl, hI⟩ | ⟨C, hC1, hC2, rfl, rfl, hI⟩ | ⟨A, C, rfl, rfl, hI⟩
    · have HIb := Lib.hid hI; clear hI
      have h2 : wr.cell? ⟨db, 2, none⟩ = some (.int .u8 145) := hcells.out 2 (by decide)
      have hm1 : ¬ C - 1 = 0 := by omega
      have hdbw : db < wr.heap.size := by omega
      go_wp2_with fail
      with_reducible refine (isCopySrc_145 _).mono ?_
      rintro e w' ⟨rfl, rfl⟩
      have e3 : wr.cell? ⟨db, 3, none⟩ = some (.int .u8 1) := hcells.out 3 (by decide)
      have E3 := Lib.hid e3; clear e3
      go_wp2_with fail
      with_reducible refine (off_aw db (C - 1) wr (by omega) (by omega) hdbw E3.out).mono ?_
      rintro e w4 ⟨rfl, hb4⟩
      have HB4 := Lib.hid hb4; clear hb4
      clear h2 hm1
      have e4 : w4.cell? ⟨db, 4, none⟩ = some (.int .u8 3) := (HB4.out.cell (p := ⟨db, 4, none⟩) hdbw).trans (hcells.out 4 (by decide))
      have E4 := Lib.hid e4; clear e4
      go_wp2_with fail
      with_reducible refine (size_aw db (C - 1 - 1) w4 (by omega) (by omega) (Nat.lt_of_lt_of_le hdbw HB4.out.size) E4.out).mono ?_
      rintro e w5 ⟨rfl, hb5⟩
      have HB5 : Hid (Below wr.heap.size wr w5) := Lib.hid (HB4.out.trans (hb5.mono HB4.out.size))
      clear hb5 HB4
      go_wp2_with fail
      with_reducible refine (inv35 _).mono ?_
      rintro e w' ⟨rfl, rfl⟩
      go_wp2_with fail
      with_reducible refine (inv136 _).mono ?_
      rintro e w' ⟨rfl, rfl⟩
      have hle1 : 4 ≤ c1 := by omega
      go_wp2_with fail
      have hI5 : IsBuf B b (u8s []) w5 := Lib.IsBuffer.old HIb.out HB5.out
      have HW5 := Lib.hid (write_aw B b sb 1 3 (c1 - 1) [] [98, 99, 100] w5 hI5 (Nat.le_trans hBr HB5.out.size) rfl hsb (by decide) (fun j hj => by
        rw [HB5.out.cell (p := ⟨sb, 1 + j, none⟩) (by show sb < _; omega), hsrc.out (1 + j) (by omega)]
        rcases (by omega : j = 0 ∨ j = 1 ∨ j = 2) with rfl | rfl | rfl <;> rfl))
      with_reducible refine HW5.out.mono ?_
      rintro e w6 ⟨rfl, hI6, hb6⟩
      have HI6 := Lib.hid hI6; have HB6 : Hid (Below B w w6) := Lib.hid (HB.out.trans ((HB5.out.mono hBr).trans hb6))
      have HBL : Hid (B ≤ w6.heap.size) := Lib.hid (Nat.le_trans (Nat.le_trans hBr HB5.out.size) hb6.size)
      clear hI6 hb6 hI5
      go_wp2
      go_roundw
      case rel => exact ⟨HB6.out, HBL.out, .inr (.inl ⟨C - 1 - 1 - 1, by omega, by omega, rfl, rfl, HI6.out⟩)⟩
      case measure => simp [awMeasure]
    · have HIb := Lib.hid hI; clear hI
      have h5 : wr.cell? ⟨db, 5, none⟩ = some (.int .u8 2) := hcells.out 5 (by decide)
      have hm1 : ¬ C - 1 = 0 := by omega
      have hle2 : 2 ≤ C - 1 := by omega
      go_wp2_with fail
      with_reducible refine (isCopySrc_2 _).mono ?_
      rintro e w' ⟨rfl, rfl⟩
      go_wp2_with fail
      with_reducible refine (isCopyDelta_2 _).mono ?_
      rintro e w' ⟨rfl, rfl⟩
      go_wp2_with fail
      with_reducible refine (inv22 _).mono ?_
      rintro e w' ⟨rfl, rfl⟩
      have HW5 := fun c => Lib.hid (write_aw B b db 6 2 c [98, 99, 100] [120, 121] wr HIb.out hBr rfl hdb (by decide) (fun j hj => by
        rw [hcells.out (6 + j) (by omega)]
        rcases (by omega : j = 0 ∨ j = 1) with rfl | rfl <;> rfl))
      go_wp2_with fail
      with_reducible refine (HW5 _).out.mono ?_
      rintro e w6 ⟨rfl, hI6, hb6⟩
      have HI6 := Lib.hid hI6; have HB6 : Hid (Below B w w6) := Lib.hid (HB.out.trans hb6)
      have HBL : Hid (B ≤ w6.heap.size) := Lib.hid (Nat.le_trans hBr hb6.size)
      clear hI6 hb6 h5
      go_wp2
      all_goals
        go_roundw
        case rel => exact ⟨HB6.out, HBL.out, .inr (.inr ⟨_, _, rfl, rfl, HI6.out⟩)⟩
        case measure => simp [awMeasure]
    · have HIb := Lib.hid hI; clear hI
      go_wp2
      go_ret
      exact ⟨rfl, HIb.out, HB.out⟩
end Go.Proofs.YtgibmkgibkhemaaDoor
