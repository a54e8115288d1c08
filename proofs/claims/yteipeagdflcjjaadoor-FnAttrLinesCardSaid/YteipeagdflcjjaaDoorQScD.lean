/- bufio.Scanner's Scan when all is read: it answers false; Text, Err; NewScanner, bytes.NewReader. -/
import Derived.Test.YteipeagdflcjjaaDoorQScC
import Derived.Laws.BytesArg
import Derived.LaidEql
namespace Go.Proofs.YteipeagdflcjjaaDoor
open Go.RowKit
set_option linter.unusedSimpArgs false
set_option linter.unusedVariables false

/-- All bytes of the buffer are read. -/
def eofV (ea : Addr) : Value := .iface 178 (.pointer (some ea))
structure Drained (sb rb db n cd : Nat) (tok : Value) (bb : Nat) (er : Value) (sc : Bool) (w : World) : Prop where
  row : ScRow w sb rb tok (.slice (some ⟨bb, 0, none⟩) 4096 4096) n n er 0 sc false
  rdr : RdrAt w rb db n cd n (-1)
  ne : bb ≠ sb ∧ bb ≠ rb
def isDry (w : World) (sb : Nat) : Nat := match w.cell? ⟨sb, 7, none⟩ with
  | some .nilIface => 1
  | _ => 0
theorem ScRow.dry {w : World} {sb rb : Nat} {tok buf : Value} {st en : Nat} {em : Int} {sc dn : Bool} (h : ScRow w sb rb tok buf st en .nilIface em sc dn) : isDry w sb = 1 := by
  unfold isDry; rw [h.cells.2.2.2.2.2.2.2.1]
theorem ScRow.notDry {w : World} {sb rb : Nat} {tok buf : Value} {st en : Nat} {ea : Addr} {em : Int} {sc dn : Bool} (h : ScRow w sb rb tok buf st en (eofV ea) em sc dn) : isDry w sb = 0 := by
  unfold isDry; rw [h.cells.2.2.2.2.2.2.2.1]; rfl
def ScanNo (B sb rb db n cd : Nat) (ea : Addr) (w : World) (e : Ending) (w' : World) : Prop :=
  e = .returned (.bool false) ∧ (∃ tok buf, ScRow w' sb rb tok buf 0 0 (eofV ea) 0 true false) ∧ BK B sb rb w w'
def Dry (B sb rb db n cd : Nat) (ea : Addr) (w : World) : Prop := ∃ bb tok er, (er = .nilIface ∨ er = eofV ea) ∧ Drained sb rb db n cd tok bb er true w
theorem errAt_heap {w w' : World} {g : Nat} {ea : Addr} {msg : ByteArray} (h : ErrAt w g ea msg) (hk : ∀ k, k = g ∨ k = ea.block → w'.heap[k]? = w.heap[k]?) (hs : w.heap.size ≤ w'.heap.size) : ErrAt w' g ea msg :=
  ⟨(World.cell?_of_block (a := ⟨g, 0, none⟩) (hk g (.inl rfl))).trans h.var, (World.cell?_of_block (a := ea) (hk _ (.inr rfl))).trans h.text, h.some, ⟨Nat.lt_of_lt_of_le h.lt.1 hs, Nat.lt_of_lt_of_le h.lt.2 hs⟩⟩

/-! ## The smaller functions -/
def NewRdr (db n cd : Nat) (w : World) (e : Ending) (w' : World) : Prop :=
  e = .returned (.pointer (some ⟨w.heap.size, 0, none⟩)) ∧ RdrAt w' w.heap.size db n cd 0 (-1) ∧ Below w.heap.size w w' ∧ w'.heap.size = w.heap.size + 1
theorem newReader_any (db n cd : Nat) (w : World) :
    Calls Tryd.prog 43 #[.slice (some ⟨db, 0, none⟩) n cd] w (NewRdr db n cd w) := by
  go_enter Tryd.func43, Tryd.ntmps43
  go_wp2
  go_ret
  exact ⟨rfl, heap_new _ _, (Below.refl _ _).alloc (Nat.le_refl _) _, heap_new_size _ _⟩
def NewSc (rb : Nat) (w : World) (e : Ending) (w' : World) : Prop :=
  e = .returned (.pointer (some ⟨w.heap.size, 0, none⟩)) ∧ ScRow w' w.heap.size rb (.slice none 0 0) (.slice none 0 0) 0 0 .nilIface 0 false false ∧ Below w.heap.size w w' ∧ w'.heap.size = w.heap.size + 1
theorem newScanner_any (rb : Nat) (w : World) :
    Calls Tryd.prog 63 #[.iface 97 (.pointer (some ⟨rb, 0, none⟩))] w (NewSc rb w) := by
  go_enter Tryd.func63, Tryd.ntmps63
  go_wp2
  go_ret
  exact ⟨rfl, heap_new _ _, (Below.refl _ _).alloc (Nat.le_refl _) _, heap_new_size _ _⟩
theorem strInfoC : (Tryd.prog.info? 178).map (·.comparable) = some true := by kernel_rfl
theorem strInfoE : (Tryd.prog.info? 208).isSome = true := by kernel_rfl
theorem eq_same (ea : Addr) (W : World) : (binOp .eql 66 (.iface 178 (.pointer (some ea))) (.iface 178 (.pointer (some ea)))).run Tryd.prog W = .ok (.bool true) W := by
  cases h1 : Tryd.prog.info? 178 with
  | none => have := strInfoC; rw [h1] at this; cases this
  | some i =>
    cases h2 : Tryd.prog.info? 208 with
    | none => have := strInfoE; rw [h2] at this; cases this
    | some j =>
      have hc := strInfoC
      rw [h1] at hc
      exact run_eql_iface_ptr_same W ea Tryd.underlying66 Tryd.underlying178 h1 (by simpa using hc) h2
def ErrNil (w : World) (e : Ending) (w' : World) : Prop := e = .returned .nilIface ∧ ∃ m, w' = w.drewN m
set_option maxHeartbeats 1000000 in
theorem scErr_any (sb rb : Nat) (tok buf : Value) (st en : Nat) (ea : Addr) (msg : ByteArray) (em : Int) (sc dn : Bool) (w : World) (h : ScRow w sb rb tok buf st en (eofV ea) em sc dn) (hE : ErrAt w 6 ea msg) :
    Calls Tryd.prog 66 #[.pointer (some ⟨sb, 0, none⟩)] w (ErrNil w) := by
  have c7 : w.cell? ⟨sb, 7, none⟩ = some (.iface 178 (.pointer (some ea))) := h.cells.2.2.2.2.2.2.2.1
  have hv := hE.var
  have heq := eq_same ea
  clear h hE
  go_enter Tryd.func66, Tryd.ntmps66
  go_wp2
  go_quiet (fail)
  go_wp2
  go_ret
  exact ⟨rfl, _, rfl⟩

set_option maxRecDepth 100000 in
set_option maxHeartbeats 40000000 in
theorem scanNo_any (B sb rb db n cd bb : Nat) (tok : Value) (ea : Addr) (msg : ByteArray) (w : World) (ho : ScOrd B sb rb db n cd w) (hd : Drained sb rb db n cd tok bb .nilIface false w ∨ Drained sb rb db n cd tok bb .nilIface true w) (hE : ErrAt w 6 ea msg) (hne : 6 ≠ sb ∧ ea.block ≠ sb) :
    Calls Tryd.prog 64 #[.pointer (some ⟨sb, 0, none⟩)] w (ScanNo B sb rb db n cd ea w) := by
  have HO := Lib.hid ho
  clear ho
  have h0 : w.cell? ⟨sb, 10, none⟩ = some (.bool false) ∧ w.frozen? ⟨sb, 9, none⟩ = false ∧ (∃ b, w.cell? ⟨sb, 9, none⟩ = some (.bool b)) := by
    rcases hd with h | h
    · exact ⟨h.row.cells.2.2.2.2.2.2.2.2.2.2, h.row.free 9, _, h.row.cells.2.2.2.2.2.2.2.2.2.1⟩
    · exact ⟨h.row.cells.2.2.2.2.2.2.2.2.2.2, h.row.free 9, _, h.row.cells.2.2.2.2.2.2.2.2.2.1⟩
  obtain ⟨a10, f9, b9, a9⟩ := h0
  have HP : Hid (Dry B sb rb db n cd ea (w.setCell ⟨sb, 9, none⟩ (.bool true))) := Lib.hid (by
    have hn := HO.out.ne
    rcases hd with h | h
    · exact ⟨bb, tok, .nilIface, .inl rfl, h.row.set9 true, (Below.heap_setCell w _ _ _ (fun e => hn.1 e.symm)).trans h.rdr, h.ne⟩
    · exact ⟨bb, tok, .nilIface, .inl rfl, h.row.set9 true, (Below.heap_setCell w _ _ _ (fun e => hn.1 e.symm)).trans h.rdr, h.ne⟩)
  have HB : Hid (BK B sb rb w (w.setCell ⟨sb, 9, none⟩ (.bool true))) := Lib.hid ((BK.refl _ _ _ _).set HO.out.base.1 9 _)
  have HE : Hid (ErrAt (w.setCell ⟨sb, 9, none⟩ (.bool true)) 6 ea msg) := Lib.hid (errAt_heap hE (fun k hk => Below.heap_setCell w _ _ _ (by rcases hk with rfl | rfl; exact hne.1; exact hne.2)) (by rw [size_setCell]; exact Nat.le_refl _))
  have HNE := Lib.hid hne
  clear hd hE hne
  go_enter Tryd.func64, Tryd.ntmps64
  go_upto_region 4 with (fail)
  clear a10 f9 a9
  generalize w.setCell ⟨sb, 9, none⟩ (.bool true) = W at HP HB HE ⊢
  go_loopw [2] (fun r wr => Dry B sb rb db n cd ea wr ∧ BK B sb rb w wr ∧ ErrAt wr 6 ea msg) (fun _ wr => isDry wr sb)
  case atStart => exact ⟨HP.out, HB.out, HE.out⟩
  case round =>
    clear HP HB HE
    obtain ⟨⟨bb, tok, er, her, hdr⟩, hb, hE⟩ := hrel
    have HB := Lib.hid hb; have HE := Lib.hid hE; have HD := Lib.hid hdr
    clear hb hE hdr
    have HNEB := Lib.hid HD.out.ne
    have hnm := HO.out.num
    have q0 : ¬ n < n := Nat.lt_irrefl n
    have q1 : ¬ (n : Int) < n := by omega
    have q3 : (n : Int) ≤ 4096 := by omega
    have hna : ∀ (w : World), (nilAhead 321 97 (.pointer (some ⟨rb, 0, none⟩)) "Read").run Tryd.prog w = .ok (some false) w := fun _ => by kernel_rfl
    have hme : ∀ (w : World), (method 321 97 (.pointer (some ⟨rb, 0, none⟩)) "Read").run Tryd.prog w = .ok (118, .pointer (some ⟨rb, 0, none⟩)) w := fun _ => by kernel_rfl
    rcases her with rfl | rfl
    · as_aux_lemma =>
        obtain ⟨c0, c1, c2, c3, c4, c5, c6, c7, c8, c9, c10⟩ := HD.out.row.cells
        have HDRY : Hid (isDry wr sb = 1) := Lib.hid HD.out.row.dry
        have q4 : ((n : Int) == 4096) = false := beq_eq_false_iff_ne.mpr (by omega)
        have q5 : decide ((2048 : Int) < n) = false := decide_eq_false (by omega)
        have q6 : 0 < n := by omega
        have q6' : decide (0 < n) = true := decide_eq_true (by omega)
        have q6'' : decide ((0 : Int) < n) = true := decide_eq_true (by omega)
        go_wp2
        go_quiet (fail)
        go_wp2
        go_quiet (fail)
        go_wp2
        go_quiet (fail)
        go_upto_region 44 with (fail)
        clear c0 c1 c2 c3 c4 c5 c6 c7 c8 c9 c10
        generalize hV : World.drewN _ _ = V
        have hvh : ∀ k : Nat, V.heap[k]? = wr.heap[k]? := fun k => by rw [← hV]; rfl
        have hvs : V.heap.size = wr.heap.size := by rw [← hV]; rfl
        have HDV : Hid (Drained sb rb db n cd tok bb .nilIface true V) := Lib.hid ⟨HD.out.row.of (hvh sb), (hvh rb).trans HD.out.rdr, HD.out.ne⟩
        have HBV : Hid (BK B sb rb w V) := Lib.hid (by rw [← hV]; first | exact HB.out.drewN _ | exact ((HB.out.drewN _).drewN _).drewN _ | exact (HB.out.drewN _).drewN _)
        have HEV : Hid (ErrAt V 6 ea msg) := Lib.hid (errAt_heap HE.out (fun k _ => hvh k) (by rw [hvs]; exact Nat.le_refl _))
        clear hV hvh hvs HD HB HE
        go_wp2
        go_loopw [8] (fun v wr2 => v = .int .i64 0 ∧ Drained sb rb db n cd tok bb .nilIface true wr2 ∧ BK B sb rb w wr2 ∧ ErrAt wr2 6 ea msg) (fun _ _ => 0)
        case atStart => exact ⟨rfl, HDV.out, HBV.out, HEV.out⟩
        case round =>
          clear HDV HBV HEV
          obtain ⟨rfl, hd2, hb2, he2⟩ := hrel
          have HD := Lib.hid hd2; have HB := Lib.hid hb2; have HE := Lib.hid he2
          clear hd2 hb2 he2
          obtain ⟨c0, c1, c2, c3, c4, c5, c6, c7, c8, c9, c10⟩ := HD.out.row.cells
          have q2 : decide ((4096 : Int) - n < 0) = false := decide_eq_false (by omega)
          go_wp2
          go_region_held3 (fun w' => w'.cell? ⟨sb, 0, none⟩ = some (.iface 97 (.pointer (some ⟨rb, 0, none⟩))) ∧ w'.cell? ⟨sb, 4, none⟩ = some (.slice (some ⟨bb, 0, none⟩) 4096 4096) ∧ w'.cell? ⟨sb, 6, none⟩ = some (.int .i64 (n : Nat))) (first | exact ⟨HRW.out.cells.1, HRW.out.cells.2.2.2.2.1, HRW.out.cells.2.2.2.2.2.2.1⟩ | go_keep)
            (first | (go_at_call 118; refine (readEnd_any rb db n cd _ _ _ (-1) ea msg _ (by omega) (by exact HD.out.rdr) (by exact errAt_heap HE.out (fun _ _ => rfl) (Nat.le_refl _))).mono ?_; rintro e w2 ⟨rfl, h1, h2, h3⟩; have HRW : Hid (ScRow w2 sb rb tok (.slice (some ⟨bb, 0, none⟩) 4096 4096) n n .nilIface 0 true false) := Lib.hid (HD.out.row.of (h1 sb)); have HR2 : Hid (RdrAt w2 rb db n cd n (-1)) := Lib.hid ((h1 rb).trans HD.out.rdr); have HB2 : Hid (BK B sb rb w w2) := Lib.hid (by first | exact HB.out.trans ⟨h3 _, fun k _ _ _ => h1 k⟩ | exact HB.out.drew.trans ⟨h3 _, fun k _ _ _ => h1 k⟩); have HE2 : Hid (ErrAt w2 6 ea msg) := Lib.hid (errAt_heap HE.out (fun k _ => h1 k) (by rw [h2]; exact Nat.le_refl _)); clear h1 h2 h3))
          all_goals
            clear c0 c1 c2 c3 c4 c5 c6 c7 c8 c9 c10 HD HB HE
            obtain ⟨c0, c1, c2, c3, c4, c5, c6, c7, c8, c9, c10⟩ := HRW.out.cells
            have f6 := HRW.out.free 6
            go_wp2
            go_quiet (fail)
            have hrow : Hid (ScRow ((w2.drewN nq).setCell ⟨sb, 6, none⟩ (.int .i64 (n : Nat))) sb rb tok (.slice (some ⟨bb, 0, none⟩) 4096 4096) n n .nilIface 0 true false) := Lib.hid (ScRow.set6 (w := w2.drewN nq) HRW.out n)
            go_wp2_with fail
            with_reducible refine (setErr_any sb rb tok (.slice (some ⟨bb, 0, none⟩) 4096 4096) n n ea 0 true false _ hrow.out).mono ?_
            rintro e w3 ⟨rfl, hr3, hk3, hs3, hb3⟩
            have HR3 : Hid (ScRow w3 sb rb tok (.slice (some ⟨bb, 0, none⟩) 4096 4096) n n (eofV ea) 0 true false) := Lib.hid hr3
            have HRD : Hid (RdrAt w3 rb db n cd n (-1)) := Lib.hid (((hk3 rb (fun e => HO.out.ne.1 e.symm)).trans (Below.heap_setCell _ _ _ _ (fun e => HO.out.ne.1 e.symm))).trans HR2.out)
            have HB3 : Hid (BK B sb rb w w3) := Lib.hid (((HB2.out.drewN nq).set HO.out.base.1 6 _).trans ⟨hb3 B HO.out.base.1, fun k _ k1 _ => hk3 k k1⟩)
            have HE3 : Hid (ErrAt w3 6 ea msg) := Lib.hid (errAt_heap HE2.out (fun k hk => by
              have hne : k ≠ sb := by rcases hk with rfl | rfl; exact HNE.out.1; exact HNE.out.2
              exact (hk3 k hne).trans (Below.heap_setCell _ _ _ _ hne)) (by rw [hs3, size_setCell]; exact Nat.le_refl _))
            clear hr3 hk3 hs3 hb3 hrow c0 c1 c2 c3 c4 c5 c6 c7 c8 c9 c10 f6
            go_wp2
            go_roundw
            case rel => exact ⟨⟨bb, tok, eofV ea, .inr rfl, HR3.out, HRD.out, HNEB.out⟩, HB3.out, HE3.out⟩
            case measure => rw [HDRY.out, HR3.out.notDry]; exact Nat.zero_lt_one
    · as_aux_lemma =>
        have hrw : ScRow wr sb rb tok (.slice (some ⟨bb, 0, none⟩) 4096 4096) n n (.iface 178 (.pointer (some ea))) 0 true false := HD.out.row
        have HRW := Lib.hid hrw
        obtain ⟨c0, c1, c2, c3, c4, c5, c6, c7, c8, c9, c10⟩ := hrw.cells
        clear hrw
        go_wp2
        go_quiet (fail)
        go_wp2
        go_region_held3 (fun w' => w'.cell? ⟨sb, 1, none⟩ = some (.func (.func 81) #[] #[]) ∧ w'.cell? ⟨sb, 4, none⟩ = some (.slice (some ⟨bb, 0, none⟩) 4096 4096) ∧ w'.cell? ⟨sb, 5, none⟩ = some (.int .i64 (n : Nat)) ∧ w'.cell? ⟨sb, 6, none⟩ = some (.int .i64 (n : Nat)) ∧ w'.cell? ⟨sb, 7, none⟩ = some (.iface 178 (.pointer (some ea))) ∧ (∀ q : Nat, w'.heap[q]? = wr.heap[q]?)) (first | go_keep | (refine ⟨?_, ?_, ?_, ?_, ?_, ?_⟩ <;> first | assumption | (intro q; rfl)))
          (first | (go_at_call 81; refine (scanLines_end _ _ _).mono ?_; rintro e w2 ⟨rfl, rfl⟩))
        all_goals
          clear c0 c1 c2 c3 c4 c5 c6 c7 c8 c9 c10
          have hrow : Hid (ScRow (wr.drewN (nq + 1)) sb rb tok (.slice (some ⟨bb, 0, none⟩) 4096 4096) n n (.iface 178 (.pointer (some ea))) 0 true false) := Lib.hid (HRW.out.of rfl)
          go_wp2_with fail
          with_reducible refine (advance_any sb rb tok (.slice (some ⟨bb, 0, none⟩) 4096 4096) n n 0 0 rfl (.iface 178 (.pointer (some ea))) 0 true false _ (by omega) (by omega) hrow.out).mono ?_
          rintro e w3 ⟨rfl, hr3, hk3, hs3, hb3⟩
          have hr3 : ScRow w3 sb rb tok (.slice (some ⟨bb, 0, none⟩) 4096 4096) n n (.iface 178 (.pointer (some ea))) 0 true false := hr3
          have HR3 := Lib.hid hr3
          have HB3 : Hid (BK B sb rb w w3) := Lib.hid ((HB.out.drewN (nq + 1)).trans ⟨hb3 B HO.out.base.1, fun k _ k1 _ => hk3 k k1⟩)
          obtain ⟨c0, c1, c2, c3, c4, c5, c6, c7, c8, c9, c10⟩ := hr3.cells
          have f3 := hr3.free 3
          have f5 := hr3.free 5
          have f6 := hr3.free 6
          clear hr3 hk3 hs3 hb3 hrow
          go_wp2
          go_ret
          exact ⟨rfl, ⟨_, _, ((HR3.out.set3 _).set5 0).set6 0⟩, ((HB3.out.set HO.out.base.1 3 _).set HO.out.base.1 5 _).set HO.out.base.1 6 _⟩
end Go.Proofs.YteipeagdflcjjaaDoor
