/- bufio.Scanner's Scan over a bytes.Reader whose text is short. -/
import Derived.Test.YteipeagdflcjjaaDoorQScB
import Derived.Deep.RegionHeld3
namespace Go.Proofs.YteipeagdflcjjaaDoor
open Go.RowKit
set_option linter.unusedSimpArgs false
set_option linter.unusedVariables false

theorem ScRow.set3 {w : World} {sb rb : Nat} {tok buf : Value} {st en : Nat} {er : Value} {em : Int} {sc dn : Bool} (h : ScRow w sb rb tok buf st en er em sc dn) (v : Value) : ScRow (w.setCell ⟨sb, 3, none⟩ v) sb rb v buf st en er em sc dn := Lib.heap_setCell_same (i := 3) h v
theorem ScRow.set4 {w : World} {sb rb : Nat} {tok buf : Value} {st en : Nat} {er : Value} {em : Int} {sc dn : Bool} (h : ScRow w sb rb tok buf st en er em sc dn) (v : Value) : ScRow (w.setCell ⟨sb, 4, none⟩ v) sb rb tok v st en er em sc dn := Lib.heap_setCell_same (i := 4) h v
theorem ScRow.set5 {w : World} {sb rb : Nat} {tok buf : Value} {st en : Nat} {er : Value} {em : Int} {sc dn : Bool} (h : ScRow w sb rb tok buf st en er em sc dn) (v : Nat) : ScRow (w.setCell ⟨sb, 5, none⟩ (.int .i64 (v : Nat))) sb rb tok buf v en er em sc dn := Lib.heap_setCell_same (i := 5) h (.int .i64 (v : Nat))
theorem ScRow.set6 {w : World} {sb rb : Nat} {tok buf : Value} {st en : Nat} {er : Value} {em : Int} {sc dn : Bool} (h : ScRow w sb rb tok buf st en er em sc dn) (v : Nat) : ScRow (w.setCell ⟨sb, 6, none⟩ (.int .i64 (v : Nat))) sb rb tok buf st v er em sc dn := Lib.heap_setCell_same (i := 6) h (.int .i64 (v : Nat))
theorem ScRow.set8 {w : World} {sb rb : Nat} {tok buf : Value} {st en : Nat} {er : Value} {em : Int} {sc dn : Bool} (h : ScRow w sb rb tok buf st en er em sc dn) (v : Int) : ScRow (w.setCell ⟨sb, 8, none⟩ (.int .i64 v)) sb rb tok buf st en er v sc dn := Lib.heap_setCell_same (i := 8) h (.int .i64 v)
theorem ScRow.set9 {w : World} {sb rb : Nat} {tok buf : Value} {st en : Nat} {er : Value} {em : Int} {sc dn : Bool} (h : ScRow w sb rb tok buf st en er em sc dn) (v : Bool) : ScRow (w.setCell ⟨sb, 9, none⟩ (.bool v)) sb rb tok buf st en er em v dn := Lib.heap_setCell_same (i := 9) h (.bool v)

theorem u8Info : (Tryd.prog.info? 5).map (fun i => (i.zero, i.size, i.bytes)) = some (some (.int .u8 0), 1, 1) := by kernel_rfl
theorem make_n (n : Nat) (hn : n ≤ 100000) (V : World) : ∃ (cur : List Value) (X : World), (Instr.makeSlice 99 (.int .i64 (n : Nat)) (.int .i64 (n : Nat))).run Tryd.prog V = .ok (.slice (some ⟨V.heap.size, 0, none⟩) n n) X ∧ Below V.heap.size V X ∧ X.heap[V.heap.size]? = some (.cells cur.toArray 5 (0, 0)) ∧ cur.length = n := by
  refine ⟨(madeCells #[.int .u8 0] n).toList, _, run_make_row' (P := Tryd.prog) 99 5 (.int .u8 0) 1 bytesKind u8Info rfl .i64 .i64 n (by omega) (by omega) V, (Below.refl _ _).alloc (Nat.le_refl _) _, ?_, by rw [toList_madeCells_one, List.length_replicate]⟩
  rw [Array.toArray_toList]
  exact heap_new V _
theorem make_4096 (V : World) : ∃ (cur : List Value) (X : World), (Instr.makeSlice 99 (.int .i64 4096) (.int .i64 4096)).run Tryd.prog V = .ok (.slice (some ⟨V.heap.size, 0, none⟩) 4096 4096) X ∧ Below V.heap.size V X ∧ X.heap[V.heap.size]? = some (.cells cur.toArray 5 (0, 0)) ∧ cur.length = 4096 :=
  make_n 4096 (by decide) V
/-- The text is in the buffer; k bytes of it are read. -/
structure InBuf (sb rb db n cd : Nat) (t : Nat → Nat) (k bb : Nat) (tok : Value) (w : World) : Prop where
  row : ScRow w sb rb tok (.slice (some ⟨bb, 0, none⟩) 4096 4096) k n .nilIface 0 true false
  rdr : RdrAt w rb db n cd n (-1)
  cells : ∀ i, i < n → w.cell? ⟨bb, i, none⟩ = some (.int .u8 (t i : Nat))
  ne : bb ≠ sb ∧ bb ≠ rb
/-- Nothing is read yet. -/
structure Fresh (sb rb db n cd : Nat) (t : Nat → Nat) (sc : Bool) (w : World) : Prop where
  row : ScRow w sb rb (.slice none 0 0) (.slice none 0 0) 0 0 .nilIface 0 sc false
  rdr : RdrAt w rb db n cd 0 (-1)
  cells : ∀ i, i < n → w.cell? ⟨db, i, none⟩ = some (.int .u8 (t i : Nat))
/-- The buffer is made. -/
structure Made (sb rb db n cd : Nat) (t : Nat → Nat) (bb : Nat) (cur : List Value) (w : World) : Prop where
  row : ScRow w sb rb (.slice none 0 0) (.slice (some ⟨bb, 0, none⟩) 4096 4096) 0 0 .nilIface 0 true false
  rdr : RdrAt w rb db n cd 0 (-1)
  cells : ∀ i, i < n → w.cell? ⟨db, i, none⟩ = some (.int .u8 (t i : Nat))
  buf : w.heap[bb]? = some (.cells cur.toArray 5 (0, 0))
theorem Fresh.made {sb rb db n cd : Nat} {t : Nat → Nat} {bb q : Nat} {cur : List Value} {X : World} (h : Fresh sb rb db n cd t true X) (hb : X.heap[bb]? = some (.cells cur.toArray 5 (0, 0))) (hne : sb ≠ rb ∧ db ≠ sb ∧ bb ≠ sb) :
    Made sb rb db n cd t bb cur (((((X.drewN q).setCell ⟨sb, 4, none⟩ (.slice (some ⟨bb, 0, none⟩) 4096 4096)).setCell ⟨sb, 6, none⟩ (.int .i64 0)).setCell ⟨sb, 5, none⟩ (.int .i64 0)).drew) := by
  have hk : ∀ k, k ≠ sb → (((((X.drewN q).setCell ⟨sb, 4, none⟩ (.slice (some ⟨bb, 0, none⟩) 4096 4096)).setCell ⟨sb, 6, none⟩ (.int .i64 0)).setCell ⟨sb, 5, none⟩ (.int .i64 0)).drew).heap[k]? = X.heap[k]? := fun k hk =>
    (Below.heap_setCell _ _ _ _ (fun e => hk e)).trans ((Below.heap_setCell _ _ _ _ (fun e => hk e)).trans (Below.heap_setCell _ _ _ _ (fun e => hk e)))
  have r1 : ScRow ((X.drewN q).setCell ⟨sb, 4, none⟩ (.slice (some ⟨bb, 0, none⟩) 4096 4096)) sb rb (.slice none 0 0) (.slice (some ⟨bb, 0, none⟩) 4096 4096) 0 0 .nilIface 0 true false := ScRow.set4 (w := X.drewN q) h.row _
  have r2 := r1.set6 0
  have r3 := r2.set5 0
  exact ⟨r3, (hk rb (fun e => hne.1 e.symm)).trans h.rdr, fun i hi => by have := h.cells i hi; unfold World.cell? at this ⊢; rw [hk db hne.2.1]; exact this, (hk bb hne.2.2).trans hb⟩
structure ScOrd (B sb rb db n cd : Nat) (w : World) : Prop where
  base : B ≤ sb ∧ B ≤ rb
  ne : sb ≠ rb ∧ db ≠ sb ∧ db ≠ rb
  lt : sb < w.heap.size ∧ rb < w.heap.size ∧ db < w.heap.size
  num : 1 ≤ n ∧ n ≤ 2000 ∧ n ≤ cd ∧ cd ≤ 9223372036854775807
theorem ScOrd.of {B sb rb db n cd : Nat} {w w' : World} (h : ScOrd B sb rb db n cd w) (hs : w.heap.size ≤ w'.heap.size) : ScOrd B sb rb db n cd w' :=
  ⟨h.base, h.ne, ⟨by have := h.lt; omega, by have := h.lt; omega, by have := h.lt; omega⟩, h.num⟩
theorem InBuf.of {sb rb db n cd : Nat} {t : Nat → Nat} {k k' bb : Nat} {tok tok' : Value} {w w' : World} (h : InBuf sb rb db n cd t k bb tok w) (hr : ScRow w' sb rb tok' (.slice (some ⟨bb, 0, none⟩) 4096 4096) k' n .nilIface 0 true false) (hrb : w'.heap[rb]? = w.heap[rb]?) (hbb : w'.heap[bb]? = w.heap[bb]?) : InBuf sb rb db n cd t k' bb tok' w' :=
  ⟨hr, hrb.trans h.rdr, fun i hi => by have := h.cells i hi; unfold World.cell? at this ⊢; rw [hbb]; exact this, h.ne⟩
/-- A line from place k on. -/
structure TextLine (t : Nat → Nat) (n k m : Nat) : Prop where
  lt : k + m < n
  byte : ∀ i, i < n → t i < 256
  no : ∀ i, i < m → t (k + i) ≠ 10 ∧ t (k + i) ≠ 13
  nl : t (k + m) = 10
/-- All blocks but the scanner's and the reader's are as they were. -/
structure BK (B sb rb : Nat) (w w' : World) : Prop where
  bel : Below B w w'
  kp : ∀ k, k < w.heap.size → k ≠ sb → k ≠ rb → w'.heap[k]? = w.heap[k]?
theorem BK.refl (B sb rb : Nat) (w : World) : BK B sb rb w w := ⟨Below.refl _ _, fun _ _ _ _ => rfl⟩
theorem BK.trans {B sb rb : Nat} {w w' w'' : World} (h : BK B sb rb w w') (h2 : BK B sb rb w' w'') : BK B sb rb w w'' :=
  ⟨h.bel.trans h2.bel, fun k hk h1 h3 => (h2.kp k (Nat.lt_of_lt_of_le hk h.bel.size) h1 h3).trans (h.kp k hk h1 h3)⟩
theorem BK.set {B sb rb : Nat} {w w' : World} (h : BK B sb rb w w') (hB : B ≤ sb) (i : Nat) (v : Value) : BK B sb rb w (w'.setCell ⟨sb, i, none⟩ v) :=
  ⟨h.bel.setCell (p := ⟨sb, i, none⟩) hB _, fun k hk h1 h3 => (Below.heap_setCell w' _ _ _ h1).trans (h.kp k hk h1 h3)⟩
theorem BK.drew {B sb rb : Nat} {w w' : World} (h : BK B sb rb w w') : BK B sb rb w w'.drew := ⟨h.bel.drew, h.kp⟩
theorem BK.drewN {B sb rb : Nat} {w w' : World} (h : BK B sb rb w w') (n : Nat) : BK B sb rb w (w'.drewN n) := ⟨below_drewN h.bel n, h.kp⟩
theorem BK.fresh {B sb rb : Nat} {w w' : World} (h : Below w.heap.size w w') (hB : B ≤ w.heap.size) : BK B sb rb w w' := ⟨h.mono hB, fun k hk _ _ => h.block k hk⟩
def Phase (B sb rb db n cd : Nat) (t : Nat → Nat) (k : Nat) (sc : Bool) (w : World) : Prop := (k = 0 ∧ Fresh sb rb db n cd t sc w) ∨ ∃ bb tok, InBuf sb rb db n cd t k bb tok w
def ScanYes (B sb rb db n cd : Nat) (t : Nat → Nat) (k m : Nat) (w : World) (e : Ending) (w' : World) : Prop :=
  e = .returned (.bool true) ∧ (∃ bb c, InBuf sb rb db n cd t (k + m + 1) bb (.slice (some ⟨bb, k, none⟩) m c) w') ∧ BK B sb rb w w'
def isFresh (w : World) (sb : Nat) : Nat := match w.cell? ⟨sb, 4, none⟩ with
  | some (.slice none _ _) => 1
  | _ => 0

theorem ScRow.fresh {w : World} {sb rb : Nat} {tok : Value} {st en : Nat} {er : Value} {em : Int} {sc dn : Bool} (h : ScRow w sb rb tok (.slice none 0 0) st en er em sc dn) : isFresh w sb = 1 := by
  unfold isFresh; rw [h.cells.2.2.2.2.1]
theorem ScRow.notFresh {w : World} {sb rb bb : Nat} {tok : Value} {st en : Nat} {er : Value} {em : Int} {sc dn : Bool} (h : ScRow w sb rb tok (.slice (some ⟨bb, 0, none⟩) 4096 4096) st en er em sc dn) : isFresh w sb = 0 := by
  unfold isFresh; rw [h.cells.2.2.2.2.1]

set_option maxRecDepth 100000 in
set_option maxHeartbeats 40000000 in
theorem scanYes_any (B sb rb db n cd k m : Nat) (t : Nat → Nat) (w : World) (ho : ScOrd B sb rb db n cd w) (hl : TextLine t n k m) (h : Phase B sb rb db n cd t k false w) :
    Calls Tryd.prog 64 #[.pointer (some ⟨sb, 0, none⟩)] w (ScanYes B sb rb db n cd t k m w) := by
  have HO := Lib.hid ho; have HL := Lib.hid hl
  clear ho hl
  -- the first store
  have h0 : w.cell? ⟨sb, 10, none⟩ = some (.bool false) ∧ w.frozen? ⟨sb, 9, none⟩ = false ∧ (∃ b, w.cell? ⟨sb, 9, none⟩ = some (.bool b)) := by
    rcases h with ⟨_, h⟩ | ⟨bb, tok, h⟩
    · exact ⟨h.row.cells.2.2.2.2.2.2.2.2.2.2, h.row.free 9, _, h.row.cells.2.2.2.2.2.2.2.2.2.1⟩
    · exact ⟨h.row.cells.2.2.2.2.2.2.2.2.2.2, h.row.free 9, _, h.row.cells.2.2.2.2.2.2.2.2.2.1⟩
  obtain ⟨a10, f9, b9, a9⟩ := h0
  have HP : Hid (Phase B sb rb db n cd t k true (w.setCell ⟨sb, 9, none⟩ (.bool true))) := Lib.hid (by
    have hne := HO.out.ne
    rcases h with ⟨hk, h⟩ | ⟨bb, tok, h⟩
    · exact .inl ⟨hk, h.row.set9 true, (Below.heap_setCell w _ _ _ (fun e => hne.1 e.symm)).trans h.rdr, fun i hi => by
        rw [World.cell?_setCell_other _ _ _ _ (fun e => hne.2.1 (by have := congrArg Addr.block e; first | exact this | exact this.symm))]; exact h.cells i hi⟩
    · exact .inr ⟨bb, tok, h.of (h.row.set9 true) (Below.heap_setCell w _ _ _ (fun e => hne.1 e.symm)) (Below.heap_setCell w _ _ _ h.ne.1)⟩)
  have HB : Hid (BK B sb rb w (w.setCell ⟨sb, 9, none⟩ (.bool true))) := Lib.hid ((BK.refl _ _ _ _).set HO.out.base.1 9 _)
  have HOW : Hid (ScOrd B sb rb db n cd (w.setCell ⟨sb, 9, none⟩ (.bool true))) := Lib.hid (HO.out.of (by rw [size_setCell]; exact Nat.le_refl _))
  clear h
  go_enter Tryd.func64, Tryd.ntmps64
  go_upto_region 4 with (fail)
  clear a10 f9 a9
  generalize w.setCell ⟨sb, 9, none⟩ (.bool true) = W at HP HB HOW ⊢
  go_loopw [2] (fun r wr => Phase B sb rb db n cd t k true wr ∧ BK B sb rb w wr ∧ ScOrd B sb rb db n cd wr) (fun _ wr => isFresh wr sb)
  case atStart => exact ⟨HP.out, HB.out, HOW.out⟩
  case round =>
    clear HP HB HOW
    obtain ⟨hph, hb, hord⟩ := hrel
    have HB := Lib.hid hb; have HOR := Lib.hid hord
    clear hb hord
    rcases hph with ⟨hk, hf⟩ | ⟨bb, tok, hin⟩
    · as_aux_lemma =>
        have HF := Lib.hid hf
        have HK0 := Lib.hid hk
        have HFR : Hid (isFresh wr sb = 1) := Lib.hid hf.row.fresh
        clear hf hk
        obtain ⟨c0, c1, c2, c3, c4, c5, c6, c7, c8, c9, c10⟩ := HF.out.row.cells
        go_wp2
        go_quiet (fail)
        go_wp2
        go_quiet (fail)
        go_wp2
        go_quiet (fail)
        go_wp2
        go_quiet (fail)
        go_upto_region 39 with (fail)
        clear c0 c1 c2 c3 c4 c5 c6 c7 c8 c9 c10
        generalize hV : World.drewN _ _ = V
        have hvh : ∀ k : Nat, V.heap[k]? = wr.heap[k]? := fun k => by rw [← hV]; rfl
        have hvs : V.heap.size = wr.heap.size := by rw [← hV]; rfl
        have HFV : Hid (Fresh sb rb db n cd t true V) := Lib.hid ⟨HF.out.row.of (hvh sb), (hvh rb).trans HF.out.rdr, fun i hi => by have := HF.out.cells i hi; unfold World.cell? at this ⊢; rw [hvh db]; exact this⟩
        have HBV : Hid (BK B sb rb w V) := Lib.hid (by rw [← hV]; exact HB.out.drewN _)
        have HOV : Hid (ScOrd B sb rb db n cd V) := Lib.hid (HOR.out.of (by rw [hvs]; exact Nat.le_refl _))
        clear hV hvh hvs HF HB HOR
        obtain ⟨cur, X, hmk, hx, hxr, hlen⟩ := make_4096 V
        have HX := Lib.hid hx; have HXR := Lib.hid hxr; have HLEN := Lib.hid hlen
        clear hx hxr hlen
        generalize hbb : V.heap.size = bb at *
        go_upto_region 40 with (fail)
        clear hmk
        have HWB : Hid (w.heap.size ≤ bb) := Lib.hid (by rw [← hbb]; exact HBV.out.bel.size)
        have HXS : Hid (bb < X.heap.size) := Lib.hid (lt_heap HXR.out)
        have HFX : Hid (Fresh sb rb db n cd t true X) := Lib.hid ⟨HFV.out.row.of (HX.out.block sb (by rw [← hbb]; exact HOV.out.lt.1)), (HX.out.block rb (by rw [← hbb]; exact HOV.out.lt.2.1)).trans HFV.out.rdr, fun i hi => (HX.out.cell (p := ⟨db, i, none⟩) (show db < bb by rw [← hbb]; exact HOV.out.lt.2.2)).trans (HFV.out.cells i hi)⟩
        obtain ⟨c0, c1, c2, c3, c4, c5, c6, c7, c8, c9, c10⟩ := HFX.out.row.cells
        have HBX : Hid (BK B sb rb w X) := Lib.hid (HBV.out.trans (BK.fresh (by rw [hbb]; exact HX.out) (by have h1 := HOV.out.base.1; have h2 := HOV.out.lt.1; omega)))
        have HSX : Hid (bb < X.heap.size ∧ sb < bb ∧ rb < bb ∧ db < bb) := Lib.hid ⟨HXS.out, by have := HOV.out.lt.1; omega, by have := HOV.out.lt.2.1; omega, by have := HOV.out.lt.2.2; omega⟩
        have hcp : ∀ V : World, (Builtin.copy_ #[99, 99] 3 #[.slice (some ⟨bb, 0, none⟩) 4096 4096, .slice none 0 0]).run Tryd.prog V = .ok (.int .i64 0) V := fun V => run_copy_none (P := Tryd.prog) V _ _ _ _ _ _ _ _ _ _ bytesKind u8Size rfl
        have f4 := HFX.out.row.free 4
        have f5 := HFX.out.row.free 5
        have f6 := HFX.out.row.free 6
        clear HFV HBV HX
        go_quiet (fail)
        clear hcp
        go_upto_region 42 with (fail)
        go_region
        go_upto_region 44 with (fail)
        have HM : Hid (Made sb rb db n cd t bb cur (((((X.drewN nq).setCell ⟨sb, 4, none⟩ (.slice (some ⟨bb, 0, none⟩) 4096 4096)).setCell ⟨sb, 6, none⟩ (.int .i64 0)).setCell ⟨sb, 5, none⟩ (.int .i64 0)).drew)) := Lib.hid (HFX.out.made HXR.out (by have := HO.out.ne; have := HSX.out; omega))
        have HBM : Hid (BK B sb rb w (((((X.drewN nq).setCell ⟨sb, 4, none⟩ (.slice (some ⟨bb, 0, none⟩) 4096 4096)).setCell ⟨sb, 6, none⟩ (.int .i64 0)).setCell ⟨sb, 5, none⟩ (.int .i64 0)).drew)) := Lib.hid ((((HBX.out.drewN nq).set HO.out.base.1 4 _).set HO.out.base.1 6 _).set HO.out.base.1 5 _).drew
        have HMS0 : Hid (X.heap.size ≤ (((((X.drewN nq).setCell ⟨sb, 4, none⟩ (.slice (some ⟨bb, 0, none⟩) 4096 4096)).setCell ⟨sb, 6, none⟩ (.int .i64 0)).setCell ⟨sb, 5, none⟩ (.int .i64 0)).drew).heap.size) := Lib.hid (by show _ ≤ (World.setCell _ _ _).heap.size; rw [size_setCell, size_setCell, size_setCell]; exact Nat.le_refl _)
        have HOX : Hid (ScOrd B sb rb db n cd X) := Lib.hid (HO.out.of (by have := HBX.out.bel.size; omega))
        clear c0 c1 c2 c3 c4 c5 c6 c7 c8 c9 c10 f4 f5 f6 HFX HXR HBX HXS HOV
        generalize (((((X.drewN nq).setCell ⟨sb, 4, none⟩ (.slice (some ⟨bb, 0, none⟩) 4096 4096)).setCell ⟨sb, 6, none⟩ (.int .i64 0)).setCell ⟨sb, 5, none⟩ (.int .i64 0)).drew) = Y at HM HBM HMS0 ⊢
        have hna : ∀ (w : World), (nilAhead 321 97 (.pointer (some ⟨rb, 0, none⟩)) "Read").run Tryd.prog w = .ok (some false) w := fun _ => by kernel_rfl
        have hme : ∀ (w : World), (method 321 97 (.pointer (some ⟨rb, 0, none⟩)) "Read").run Tryd.prog w = .ok (118, .pointer (some ⟨rb, 0, none⟩)) w := fun _ => by kernel_rfl
        go_wp2
        go_loopw [8] (fun v wr2 => v = .int .i64 0 ∧ Made sb rb db n cd t bb cur wr2 ∧ BK B sb rb w wr2 ∧ X.heap.size ≤ wr2.heap.size) (fun _ _ => 0)
        case atStart => exact ⟨rfl, HM.out, HBM.out, HMS0.out⟩
        case round =>
          clear HM HBM HMS0
          obtain ⟨rfl, hm, hb, hms⟩ := hrel
          have HM := Lib.hid hm; have HBM := Lib.hid hb; have HMS := Lib.hid hms
          clear hm hb hms
          obtain ⟨c0, c1, c2, c3, c4, c5, c6, c7, c8, c9, c10⟩ := HM.out.row.cells
          have q1 : (0 : Int) < n := by have := HO.out.num.1; omega
          have q2 : decide ((4096 : Int) < n) = false := decide_eq_false (by have := HO.out.num.2.1; omega)
          have q3 : decide ((n : Int) < 0) = false := decide_eq_false (by omega)
          go_wp2
          go_region_held3 (fun w' => w'.cell? ⟨sb, 0, none⟩ = some (.iface 97 (.pointer (some ⟨rb, 0, none⟩))) ∧ w'.cell? ⟨sb, 4, none⟩ = some (.slice (some ⟨bb, 0, none⟩) 4096 4096) ∧ w'.cell? ⟨sb, 6, none⟩ = some (.int .i64 0)) (first | exact ⟨HRW.out.cells.1, HRW.out.cells.2.2.2.2.1, HRW.out.cells.2.2.2.2.2.2.1⟩ | go_keep)
            (first | (go_at_call 118; refine (readAll_any B rb bb db n cd 5 t cur (-1) _ HO.out.base.2 HSX.out.2.2.1 HSX.out.2.2.2 HO.out.ne.2.2 HO.out.num.1 (by have := HO.out.num.2.1; omega) HO.out.num.2.2.1 HO.out.num.2.2.2 HLEN.out (by exact HM.out.rdr) (by exact HM.out.buf) (by exact HM.out.cells)).mono ?_; rintro e w2 ⟨rfl, h1, h2, h3, h4, h5⟩; have HR1 := Lib.hid h1; have HC1 := Lib.hid h2; have HRW : Hid (ScRow w2 sb rb (.slice none 0 0) (.slice (some ⟨bb, 0, none⟩) 4096 4096) 0 0 .nilIface 0 true false) := Lib.hid (HM.out.row.of (by exact h3 sb HSX.out.2.1 HO.out.ne.1)); have HSZ2 : Hid (X.heap.size ≤ w2.heap.size) := Lib.hid (Nat.le_trans HMS.out h5.size); have HB2 : Hid (BK B sb rb w w2) := Lib.hid (by first | exact ⟨HBM.out.bel.trans h5, fun k hk k1 k2 => (h3 k (Nat.lt_of_lt_of_le hk HWB.out) k2).trans (HBM.out.kp k hk k1 k2)⟩ | exact ⟨HBM.out.bel.drew.trans h5, fun k hk k1 k2 => (h3 k (Nat.lt_of_lt_of_le hk HWB.out) k2).trans (HBM.out.kp k hk k1 k2)⟩); clear h1 h2 h3 h4 h5))
          all_goals
            clear c0 c1 c2 c3 c4 c5 c6 c7 c8 c9 c10 HM HBM
            obtain ⟨c0, c1, c2, c3, c4, c5, c6, c7, c8, c9, c10⟩ := HRW.out.cells
            have f6 := HRW.out.free 6
            have f8 := HRW.out.free 8
            have hnn : n ≤ 2000 := HO.out.num.2.1
            go_wp2
            go_quiet (fail)
            go_wp2
            go_roundw
            case rel =>
              have hrow : ScRow (((w2.drewN nq).setCell ⟨sb, 6, none⟩ (.int .i64 (n : Nat))).setCell ⟨sb, 8, none⟩ (.int .i64 0)) sb rb (.slice none 0 0) (.slice (some ⟨bb, 0, none⟩) 4096 4096) 0 n .nilIface 0 true false := (ScRow.set6 (w := w2.drewN nq) HRW.out n).set8 0
              have hoth : ∀ q, q ≠ sb → (((w2.drewN nq).setCell ⟨sb, 6, none⟩ (.int .i64 (n : Nat))).setCell ⟨sb, 8, none⟩ (.int .i64 0)).heap[q]? = w2.heap[q]? := fun q hq => (Below.heap_setCell _ _ _ _ (fun e => hq e)).trans (Below.heap_setCell _ _ _ _ (fun e => hq e))
              have hn := HO.out.ne
              have hs := HSX.out
              have hin : InBuf sb rb db n cd t k bb (.slice none 0 0) (((w2.drewN nq).setCell ⟨sb, 6, none⟩ (.int .i64 (n : Nat))).setCell ⟨sb, 8, none⟩ (.int .i64 0)) := ⟨by rw [HK0.out]; exact hrow, (hoth rb (fun e => hn.1 e.symm)).trans HR1.out, fun i hi => by have := HC1.out i hi; unfold World.cell? at this ⊢; rw [hoth bb (by omega)]; exact this, by omega, by omega⟩
              exact ⟨.inr ⟨bb, _, hin⟩, ((HB2.out.drewN nq).set HO.out.base.1 6 _).set HO.out.base.1 8 _, HOX.out.of (by have := HB2.out.bel.size; have := HSZ2.out; rw [size_setCell, size_setCell]; exact HSZ2.out)⟩
            case measure =>
              have hrow : ScRow (((w2.drewN nq).setCell ⟨sb, 6, none⟩ (.int .i64 (n : Nat))).setCell ⟨sb, 8, none⟩ (.int .i64 0)) sb rb (.slice none 0 0) (.slice (some ⟨bb, 0, none⟩) 4096 4096) 0 n .nilIface 0 true false := (ScRow.set6 (w := w2.drewN nq) HRW.out n).set8 0
              rw [HFR.out, hrow.notFresh]; exact Nat.zero_lt_one
    · as_aux_lemma =>
        have HIN := Lib.hid hin
        clear hin
        obtain ⟨c0, c1, c2, c3, c4, c5, c6, c7, c8, c9, c10⟩ := HIN.out.row.cells
        have hkm := HL.out.lt
        have hnm := HO.out.num
        have q1 : (k : Int) < n := by omega
        have q2 : (k : Int) ≤ n := by omega
        have q3 : (n : Int) ≤ 4096 := by omega
        have q4 : ¬ 4096 = k := by omega
        have HLA : Hid (∀ V : World, (∀ q : Nat, V.heap[q]? = wr.heap[q]?) → LineAt V bb k (n - k) m (fun i => t (k + i))) := Lib.hid fun V hV => ⟨by omega, fun i hi => by
          have := HIN.out.cells (k + i) (by omega)
          unfold World.cell? at this ⊢
          rw [hV bb]; exact this, fun i hi => HL.out.byte _ (by omega), HL.out.no, HL.out.nl⟩
        go_wp2
        go_quiet (fail)
        go_wp2
        have hla := HLA.out wr (fun _ => rfl)
        go_region_held3 (fun w' => w'.cell? ⟨sb, 1, none⟩ = some (.func (.func 81) #[] #[]) ∧ w'.cell? ⟨sb, 4, none⟩ = some (.slice (some ⟨bb, 0, none⟩) 4096 4096) ∧ w'.cell? ⟨sb, 5, none⟩ = some (.int .i64 (k : Nat)) ∧ w'.cell? ⟨sb, 6, none⟩ = some (.int .i64 (n : Nat)) ∧ w'.cell? ⟨sb, 7, none⟩ = some .nilIface ∧ (∀ q : Nat, w'.heap[q]? = wr.heap[q]?)) (first | go_keep | (refine ⟨?_, ?_, ?_, ?_, ?_, ?_⟩ <;> first | assumption | (intro q; rfl)))
          (first | (go_at_call 81; refine (scanLines_any bb k (n - k) m (4096 - k) (fun i => t (k + i)) false _ (by omega) (by omega) (by omega) (HLA.out _ (by first | assumption | (intro q; rfl)))).mono ?_; rintro e w2 ⟨rfl, rfl⟩))
        all_goals
          clear c0 c1 c2 c3 c4 c5 c6 c7 c8 c9 c10
          have hrow : Hid (ScRow (wr.drewN (nq + 1)) sb rb tok (.slice (some ⟨bb, 0, none⟩) 4096 4096) k n .nilIface 0 true false) := Lib.hid (HIN.out.row.of rfl)
          go_wp2_with fail
          with_reducible refine (advance_any sb rb tok (.slice (some ⟨bb, 0, none⟩) 4096 4096) k n (m + 1) ((m : Int) + 1) (by omega) .nilIface 0 true false _ (by omega) (by omega) hrow.out).mono ?_
          rintro e w3 ⟨rfl, hr3, hk3, hs3, hb3⟩
          have HR3 := Lib.hid hr3
          have HK3 : Hid (∀ q : Nat, q ≠ sb → w3.heap[q]? = wr.heap[q]?) := Lib.hid fun q hq => hk3 q hq
          have HB3 : Hid (BK B sb rb w w3) := Lib.hid ((HB.out.drewN (nq + 1)).trans ⟨hb3 B HO.out.base.1, fun k hk h1 h2 => hk3 k h1⟩)
          clear hr3 hk3 hs3 hb3
          obtain ⟨c0, c1, c2, c3, c4, c5, c6, c7, c8, c9, c10⟩ := HR3.out.cells
          have f3 := HR3.out.free 3
          have f8 := HR3.out.free 8
          go_wp2
          go_ret
          refine ⟨rfl, ⟨bb, 4096 - k, ?_⟩, (HB3.out.set HO.out.base.1 3 _).set HO.out.base.1 8 _⟩
          exact HIN.out.of ((HR3.out.set3 _).set8 0) (((Below.heap_setCell _ _ _ _ (fun e => HO.out.ne.1 e.symm)).trans (Below.heap_setCell _ _ _ _ (fun e => HO.out.ne.1 e.symm))).trans (HK3.out rb (fun e => HO.out.ne.1 e.symm))) (((Below.heap_setCell _ _ _ _ HIN.out.ne.1).trans (Below.heap_setCell _ _ _ _ HIN.out.ne.1)).trans (HK3.out bb HIN.out.ne.1))
end Go.Proofs.YteipeagdflcjjaaDoor
