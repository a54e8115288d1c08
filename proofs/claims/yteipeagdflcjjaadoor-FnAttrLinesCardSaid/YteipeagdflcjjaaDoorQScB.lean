/- bufio.Scanner over a bytes.Reader: the small functions. -/
import Derived.Test.YteipeagdflcjjaaDoorQAtX
import Derived.Lib.BytesEntry
import Derived.BigQuiet
import Derived.Deep.RegionLaw
import Derived.Deep.OwnRows
import Derived.Laws.CopyOwn
import Derived.Lib.FrozenHead
import Derived.Lib.BufferMore
namespace Go.Proofs.YteipeagdflcjjaaDoor
open Go.RowKit
set_option linter.unusedSimpArgs false
set_option linter.unusedVariables false

theorem results_tmp3 {fn : Func} {t u v : Tmp} (h : fn.results = #[.tmp t, .tmp u, .tmp v]) (tmps : Array Value) (P : Program) (w : World) :
    (results fn tmps).run P w = .ok (.tuple #[tmps.getD t undef, tmps.getD u undef, tmps.getD v undef]) w := by simp [results, h]
theorem indexByte_at (f : Nat → Nat) (c : Nat) (hc : c < 256) : ∀ (m n : Nat), m < n → (∀ i, i < n → f i < 256) → (∀ i, i < m → f i ≠ c) → f m = c → Lib.indexByte (Lib.bytesOf ((List.range n).map fun i => (f i : Int))) (c : Int).toNat.toUInt8 = (m : Int) := by
  intro m
  induction m generalizing f with
  | zero =>
    intro n hn hf _ hm
    obtain ⟨k, rfl⟩ : ∃ k, n = k + 1 := ⟨n - 1, by omega⟩
    rw [List.range_succ_eq_map, List.map_cons]
    show Lib.indexByte (UInt8.ofNat ((f 0 : Nat) : Int).toNat :: _) _ = _
    rw [hm]
    unfold Lib.indexByte
    rw [if_pos (by simp [Nat.toUInt8])]
    rfl
  | succ m ih =>
    intro n hn hf hne hm
    obtain ⟨k, rfl⟩ : ∃ k, n = k + 1 := ⟨n - 1, by omega⟩
    have h := ih (fun i => f (i + 1)) k (by omega) (fun i hi => hf (i + 1) (by omega)) (fun i hi => hne (i + 1) (by omega)) hm
    rw [List.range_succ_eq_map, List.map_cons, List.map_map]
    show Lib.indexByte (UInt8.ofNat ((f 0 : Nat) : Int).toNat :: Lib.bytesOf ((List.range k).map fun i => (f (i + 1) : Int))) _ = _
    have h0 : (UInt8.ofNat ((f 0 : Nat) : Int).toNat == ((c : Nat) : Int).toNat.toUInt8) = false := by
      rw [beq_eq_false_iff_ne]
      intro e
      have e2 := congrArg UInt8.toNat e
      have h1 := hf 0 (by omega)
      simp [Nat.toUInt8, Nat.mod_eq_of_lt h1, Nat.mod_eq_of_lt hc] at e2
      exact hne 0 (by omega) e2
    unfold Lib.indexByte
    rw [if_neg (by rw [h0]; decide), h, if_neg (by simp <;> omega)]
    omega

def IdxPost (m : Nat) (w : World) (e : Ending) (w' : World) : Prop := e = .returned (.int .i64 (m : Nat)) ∧ w = w'
set_option maxHeartbeats 1000000 in
set_option maxRecDepth 100000 in
theorem idxByte_any (b o n c m : Nat) (f : Nat → Nat) (w : World) (hm : m < n) (hf : ∀ i, i < n → f i < 256) (hc : ∀ i, i < n → w.cell? ⟨b, o + i, none⟩ = some (.int .u8 (f i : Nat))) (hne : ∀ i, i < m → f i ≠ 10) (hat : f m = 10) :
    Calls Tryd.prog 92 #[.slice (some ⟨b, o, none⟩) n c, .int .u8 10] w (IdxPost m w) := by
  have hx : ((List.range n).map fun i => (f i : Int)).length = n := by simp
  have hc' : ∀ i, i < n → w.cell? ⟨b, o + i, none⟩ = some (.int .u8 (((List.range n).map fun i => (f i : Int)).getD i 0)) := fun i hi => by
    rw [hc i hi, List.getD_eq_getElem?_getD, List.getElem?_map, List.getElem?_range hi]; rfl
  have hrun := Lib.run_indexByteSlice (P := Tryd.prog) w b o n c _ hx hc' 10
  have hval := indexByte_at f 10 (by decide) m n hm hf hne hat
  have hrun2 : (Extern.BytealgIndexByte.indexByte #[.slice (some ⟨b, o, none⟩) n c, .int .u8 10]).run Tryd.prog w = .ok (.int .i64 (m : Nat)) w := by
    rw [hrun]
    have e : (10 : Int).toNat.toUInt8 = ((10 : Nat) : Int).toNat.toUInt8 := rfl
    rw [e, hval]
  clear hrun hval hc hc' hx hf hne hat
  go_enter Tryd.func92, Tryd.ntmps92
  go_wp2
  rw [run_callFunc_extern Tryd.func95 (by kernel_rfl) (by kernel_rfl) (by kernel_rfl) (e := Extern.BytealgIndexByte.indexByte) (by kernel_rfl), hrun2]
  simp only [Result.andThen]
  rw [Oper.upon_value]
  go_wp2
  go_ret
  exact ⟨rfl, rfl⟩

def SamePost' (v : Value) (w : World) (e : Ending) (w' : World) : Prop := e = .returned v ∧ w = w'
set_option maxHeartbeats 1000000 in
set_option maxRecDepth 100000 in
theorem dropCR_any (b o n c : Nat) (x : Nat) (w : World) (hn : n ≤ 100000) (h : 0 < n → w.cell? ⟨b, o + (n - 1), none⟩ = some (.int .u8 (x : Nat)) ∧ x ≠ 13) :
    Calls Tryd.prog 93 #[.slice (some ⟨b, o, none⟩) n c] w (SamePost' (.slice (some ⟨b, o, none⟩) n c) w) := by
  by_cases h0 : 0 < n
  · obtain ⟨hc, hx⟩ := h h0
    have hp : (0 : Int) < n := by omega
    have hq : ((x : Int) == 13) = false := beq_eq_false_iff_ne.mpr (by omega)
    obtain ⟨m, rfl⟩ : ∃ m, n = m + 1 := ⟨n - 1, by omega⟩
    have hc2 : w.cell? ⟨b, o + m, none⟩ = some (.int .u8 (x : Nat)) := hc
    have hle : (m : Int) ≤ m + 1 := by omega
    clear h hc hx h0
    go_enter Tryd.func93, Tryd.ntmps93
    go_wp2
    go_ret
    exact ⟨rfl, rfl⟩
  · obtain rfl : n = 0 := by omega
    clear h h0
    go_enter Tryd.func93, Tryd.ntmps93
    go_wp2
    go_ret
    exact ⟨rfl, rfl⟩

/-- A line in the buffer: m bytes from k on, and a line's end. -/
structure LineAt (w : World) (b k n m : Nat) (f : Nat → Nat) : Prop where
  lt : m < n
  cells : ∀ i, i < n → w.cell? ⟨b, k + i, none⟩ = some (.int .u8 (f i : Nat))
  byte : ∀ i, i < n → f i < 256
  no : ∀ i, i < m → f i ≠ 10 ∧ f i ≠ 13
  nl : f m = 10
def LinesPost (b k m c : Nat) (w : World) (e : Ending) (w' : World) : Prop := e = .returned (.tuple #[.int .i64 ((m : Int) + 1), .slice (some ⟨b, k, none⟩) m c, .nilIface]) ∧ w = w'
set_option maxHeartbeats 1000000 in
set_option maxRecDepth 100000 in
theorem scanLines_any (b k n m c : Nat) (f : Nat → Nat) (eof : Bool) (w : World) (hn : n ≤ 100000) (hnc : n ≤ c) (hcm : c ≤ 9223372036854775807) (h : LineAt w b k n m f) :
    Calls Tryd.prog 81 #[.slice (some ⟨b, k, none⟩) n c, .bool eof] w (LinesPost b k m c w) := by
  have HI := Lib.hid (idxByte_any b k n c m f w h.lt h.byte h.cells (fun i hi => (h.no i hi).1) h.nl)
  have hmn := h.lt
  have HD := Lib.hid (dropCR_any b k m c (f (m - 1)) w (by omega) (fun h0 => ⟨h.cells (m - 1) (by omega), (h.no (m - 1) (by omega)).2⟩))
  have hz : ((n : Int) == 0) = false := beq_eq_false_iff_ne.mpr (by omega)
  have hge : (0 : Int) ≤ m := by omega
  have hmc : (m : Int) ≤ c := by omega
  clear h
  cases eof
  all_goals
    go_enter Tryd.func81, Tryd.ntmps81
    go_wp2_with fail
    with_reducible refine HI.out.mono ?_
    rintro e w' ⟨rfl, rfl⟩
    go_wp2_with fail
    with_reducible refine HD.out.mono ?_
    rintro e w' ⟨rfl, rfl⟩
    go_wp2
    refine bodyPost_ret (results_tmp3 rfl _ _ _) rfl ?_
    exact ⟨rfl, rfl⟩
def NoLines (w : World) (e : Ending) (w' : World) : Prop := e = .returned (.tuple #[.int .i64 0, .slice none 0 0, .nilIface]) ∧ w = w'
set_option maxHeartbeats 1000000 in
theorem scanLines_end (A : Option Addr) (c : Nat) (w : World) : Calls Tryd.prog 81 #[.slice A 0 c, .bool true] w (NoLines w) := by
  go_enter Tryd.func81, Tryd.ntmps81
  go_wp2
  refine bodyPost_ret (results_tmp3 rfl _ _ _) rfl ?_
  exact ⟨rfl, rfl⟩

/-- The scanner's block. -/
def ScRow (w : World) (sb rb : Nat) (tok buf : Value) (st en : Nat) (er : Value) (em : Int) (sc dn : Bool) : Prop :=
  w.heap[sb]? = some (.cells #[.iface 97 (.pointer (some ⟨rb, 0, none⟩)), .func (.func 81) #[] #[], .int .i64 65536, tok, buf, .int .i64 (st : Nat), .int .i64 (en : Nat), er, .int .i64 em, .bool sc, .bool dn] 158 (0, 0))
def RdrAt (w : World) (rb db n c j : Nat) (x : Int) : Prop := w.heap[rb]? = some (.cells #[.slice (some ⟨db, 0, none⟩) n c, .int .i64 (j : Nat), .int .i64 x] 135 (0, 0))

def SetErrPost (sb rb : Nat) (tok buf : Value) (st en : Nat) (ea : Addr) (em : Int) (sc dn : Bool) (w : World) (e : Ending) (w' : World) : Prop :=
  e = .returned (.tuple #[]) ∧ ScRow w' sb rb tok buf st en (.iface 178 (.pointer (some ea))) em sc dn ∧ (∀ k, k ≠ sb → w'.heap[k]? = w.heap[k]?) ∧ w'.heap.size = w.heap.size ∧ ∀ B, B ≤ sb → Below B w w'
set_option maxHeartbeats 1000000 in
set_option maxRecDepth 100000 in
theorem setErr_any (sb rb : Nat) (tok buf : Value) (st en : Nat) (ea : Addr) (em : Int) (sc dn : Bool) (w : World) (h : ScRow w sb rb tok buf st en .nilIface em sc dn) :
    Calls Tryd.prog 82 #[.pointer (some ⟨sb, 0, none⟩), .iface 178 (.pointer (some ea))] w (SetErrPost sb rb tok buf st en ea em sc dn w) := by
  have c7 : w.cell? ⟨sb, 7, none⟩ = some .nilIface := by rw [Lib.cell_of_heap h]; rfl
  have f7 : w.frozen? ⟨sb, 7, none⟩ = false := Lib.frozen_of_heap h 7
  have H := Lib.hid h
  clear h
  go_enter Tryd.func82, Tryd.ntmps82
  go_wp2
  go_quiet (fail)
  go_wp2
  go_end0
  refine ⟨rfl, ?_, fun k hk => ?_, ?_⟩
  · exact Lib.heap_setCell_same (w := w.drewN nq) (i := 7) H.out (.iface 178 (.pointer (some ea)))
  · exact Below.heap_setCell _ _ _ _ (fun e => hk e)
  · exact ⟨size_setCell _ _ _, fun B hB => (below_drewN (Below.refl _ _) _).setCell (p := ⟨sb, 7, none⟩) hB _⟩

/-! ## Advance -/
theorem ScRow.cells {w : World} {sb rb : Nat} {tok buf : Value} {st en : Nat} {er : Value} {em : Int} {sc dn : Bool} (h : ScRow w sb rb tok buf st en er em sc dn) :
    w.cell? ⟨sb, 0, none⟩ = some (.iface 97 (.pointer (some ⟨rb, 0, none⟩))) ∧ w.cell? ⟨sb, 1, none⟩ = some (.func (.func 81) #[] #[]) ∧ w.cell? ⟨sb, 2, none⟩ = some (.int .i64 65536) ∧ w.cell? ⟨sb, 3, none⟩ = some tok ∧
    w.cell? ⟨sb, 4, none⟩ = some buf ∧ w.cell? ⟨sb, 5, none⟩ = some (.int .i64 (st : Nat)) ∧ w.cell? ⟨sb, 6, none⟩ = some (.int .i64 (en : Nat)) ∧ w.cell? ⟨sb, 7, none⟩ = some er ∧ w.cell? ⟨sb, 8, none⟩ = some (.int .i64 em) ∧ w.cell? ⟨sb, 9, none⟩ = some (.bool sc) ∧ w.cell? ⟨sb, 10, none⟩ = some (.bool dn) := by
  refine ⟨?_, ?_, ?_, ?_, ?_, ?_, ?_, ?_, ?_, ?_, ?_⟩ <;> (rw [Lib.cell_of_heap h]; rfl)
theorem ScRow.free {w : World} {sb rb : Nat} {tok buf : Value} {st en : Nat} {er : Value} {em : Int} {sc dn : Bool} (h : ScRow w sb rb tok buf st en er em sc dn) (i : Nat) : w.frozen? ⟨sb, i, none⟩ = false := Lib.frozen_of_heap h i
theorem ScRow.of {w w' : World} {sb rb : Nat} {tok buf : Value} {st en : Nat} {er : Value} {em : Int} {sc dn : Bool} (h : ScRow w sb rb tok buf st en er em sc dn) (e : w'.heap[sb]? = w.heap[sb]?) : ScRow w' sb rb tok buf st en er em sc dn := e.trans h
def AdvPost (sb rb : Nat) (tok buf : Value) (st en : Nat) (er : Value) (em : Int) (sc dn : Bool) (w : World) (e : Ending) (w' : World) : Prop :=
  e = .returned (.bool true) ∧ ScRow w' sb rb tok buf st en er em sc dn ∧ (∀ k, k ≠ sb → w'.heap[k]? = w.heap[k]?) ∧ w'.heap.size = w.heap.size ∧ ∀ B, B ≤ sb → Below B w w'
set_option maxHeartbeats 1000000 in
set_option maxRecDepth 100000 in
theorem advance_any (sb rb : Nat) (tok buf : Value) (st en m : Nat) (z : Int) (hz : z = (m : Nat)) (er : Value) (em : Int) (sc dn : Bool) (w : World) (hm : st + m ≤ en) (hen : en ≤ 100000) (h : ScRow w sb rb tok buf st en er em sc dn) :
    Calls Tryd.prog 83 #[.pointer (some ⟨sb, 0, none⟩), .int .i64 z] w (AdvPost sb rb tok buf (st + m) en er em sc dn w) := by
  subst hz
  obtain ⟨_, _, _, _, _, c5, c6, _, _, _, _⟩ := h.cells
  have f5 := h.free 5
  have H := Lib.hid h
  have q1 : ¬ (m : Int) < 0 := by omega
  have q2 : ¬ ((en : Int) - st) < m := by omega
  clear h
  go_enter Tryd.func83, Tryd.ntmps83
  go_wp2
  go_quiet (fail)
  go_wp2
  go_ret
  refine ⟨rfl, ?_, fun k hk => ?_, ?_⟩
  · exact Lib.heap_setCell_same (w := w.drewN nq) (i := 5) H.out (.int .i64 ((st + m : Nat) : Int))
  · exact Below.heap_setCell _ _ _ _ (fun e => hk e)
  · exact ⟨size_setCell _ _ _, fun B hB => (below_drewN (Below.refl _ _) _).setCell (p := ⟨sb, 5, none⟩) hB _⟩
end Go.Proofs.YteipeagdflcjjaaDoor
/- bytes.Reader's Read: all at once, and at the end. -/
namespace Go.Proofs.YteipeagdflcjjaaDoor
open Go.RowKit
set_option linter.unusedSimpArgs false
set_option linter.unusedVariables false

theorem u8Size : (Tryd.prog.info? 5).map (·.size) = some 1 := by kernel_rfl
theorem lt_heap {w : World} {b : Nat} {o : Obj} (h : w.heap[b]? = some o) : b < w.heap.size := (Array.getElem?_eq_some_iff.1 h).1
def bytesV (t : Nat → Nat) (n : Nat) : List Value := (List.range n).map fun i => .int .u8 (t i : Nat)
theorem bytesV_length (t : Nat → Nat) (n : Nat) : (bytesV t n).length = n := by unfold bytesV; simp
theorem bytesV_at (t : Nat → Nat) (n i : Nat) (h : i < n) : (bytesV t n)[i]? = some (.int .u8 (t i : Nat)) := by
  unfold bytesV
  rw [List.getElem?_map, List.getElem?_range h]; rfl
def ReadAll (B rb tb db n cd : Nat) (t : Nat → Nat) (w : World) (e : Ending) (w' : World) : Prop :=
  e = .returned (.tuple #[.int .i64 (n : Nat), .nilIface]) ∧ RdrAt w' rb db n cd n (-1) ∧ (∀ i, i < n → w'.cell? ⟨tb, i, none⟩ = some (.int .u8 (t i : Nat))) ∧ (∀ k, k < tb → k ≠ rb → w'.heap[k]? = w.heap[k]?) ∧ tb < w'.heap.size ∧ Below B w w'

set_option maxRecDepth 100000 in
set_option maxHeartbeats 4000000 in
theorem readAll_any (B rb tb db n cd T : Nat) (t : Nat → Nat) (cur : List Value) (x : Int) (w : World) (hB : B ≤ rb) (hrt : rb < tb) (hdt : db < tb) (hdr : db ≠ rb) (h1 : 1 ≤ n) (hn : n ≤ 4000) (hnc : n ≤ cd) (hc : cd ≤ 9223372036854775807) (hcur : cur.length = 4096)
    (hr : RdrAt w rb db n cd 0 x) (ht : w.heap[tb]? = some (.cells cur.toArray T (0, 0))) (hd : ∀ i, i < n → w.cell? ⟨db, i, none⟩ = some (.int .u8 (t i : Nat))) :
    Calls Tryd.prog 118 #[.pointer (some ⟨rb, 0, none⟩), .slice (some ⟨tb, 0, none⟩) 4096 4096] w (ReadAll B rb tb db n cd t w) := by
  have HR := Lib.hid hr; have HT := Lib.hid ht; have HD := Lib.hid hd
  have c0 : w.cell? ⟨rb, 0, none⟩ = some (.slice (some ⟨db, 0, none⟩) n cd) := by rw [Lib.cell_of_heap hr]; rfl
  have c1 : w.cell? ⟨rb, 1, none⟩ = some (.int .i64 ((0 : Nat) : Int)) := by rw [Lib.cell_of_heap hr]; rfl
  have c2 : w.cell? ⟨rb, 2, none⟩ = some (.int .i64 x) := by rw [Lib.cell_of_heap hr]; rfl
  have c1' : w.cell? ⟨rb, 1, none⟩ = some (.int .i64 0) := c1
  have f2 : w.frozen? ⟨rb, 2, none⟩ = false := Lib.frozen_of_heap hr 2
  have hlt : ¬ ((n : Int) ≤ 0) := by omega
  have hlc : (n : Int) ≤ cd := by omega
  clear hr ht hd c1
  go_enter Tryd.func118, Tryd.ntmps118
  go_wp2
  go_quiet (fail)
  go_wp2
  clear c0 c1' c2 f2
  have hV : Hid (∀ k, k ≠ rb → ((w.drewN nq).setCell ⟨rb, 2, none⟩ (.int .i64 (-1))).heap[k]? = w.heap[k]?) := Lib.hid fun k hk => Below.heap_setCell _ _ _ _ (fun e => hk e)
  have hR : RdrAt ((w.drewN nq).setCell ⟨rb, 2, none⟩ (.int .i64 (-1))) rb db n cd 0 (-1) := by
    have := Lib.heap_setCell_same (w := w.drewN nq) (i := 2) HR.out (.int .i64 (-1))
    exact this
  have hBV : Hid (Below B w ((w.drewN nq).setCell ⟨rb, 2, none⟩ (.int .i64 (-1)))) := Lib.hid ((below_drewN (Below.refl _ _) _).setCell (p := ⟨rb, 2, none⟩) hB _)
  generalize (w.drewN nq).setCell ⟨rb, 2, none⟩ (.int .i64 (-1)) = V at hV hR hBV ⊢
  have HR2 := Lib.hid hR
  have HT2 : Hid (V.heap[tb]? = some (.cells cur.toArray T (0, 0))) := Lib.hid ((hV.out tb (by omega)).trans HT.out)
  have c0 : V.cell? ⟨rb, 0, none⟩ = some (.slice (some ⟨db, 0, none⟩) n cd) := by rw [Lib.cell_of_heap hR]; rfl
  have c1 : V.cell? ⟨rb, 1, none⟩ = some (.int .i64 0) := by rw [Lib.cell_of_heap hR]; rfl
  have HS2 : Hid (∀ (V' : World), (∀ k, V'.heap[k]? = V.heap[k]?) → ∀ (i : Nat) (v : Value), (bytesV t n)[i]? = some v → V'.cell? ((⟨db, 0, none⟩ : Addr).add i) = some v) := Lib.hid fun V' hV' i v hv => by
    have hi : i < n := by have := (List.getElem?_eq_some_iff.mp hv).1; rwa [bytesV_length] at this
    rw [bytesV_at t n i hi] at hv
    obtain rfl := Option.some.inj hv
    have hadd : (⟨db, 0, none⟩ : Addr).add i = ⟨db, i, none⟩ := by unfold Addr.add; split <;> simp_all
    rw [hadd]
    have := HD.out i hi
    unfold World.cell? at this ⊢
    rw [hV' db, hV.out db hdr]; exact this
  have HMIN : Hid ((bytesV t n).length = Nat.min n 4096) := Lib.hid (by rw [bytesV_length]; exact (Nat.min_eq_left (by omega)).symm)
  have HFIT : Hid (0 + (bytesV t n).length ≤ cur.length) := Lib.hid (by rw [bytesV_length, hcur]; omega)
  have HONE : Hid (∀ v ∈ bytesV t n, v.oneCell' = true) := Lib.hid (by
    intro v hv
    unfold bytesV at hv
    obtain ⟨i, _, rfl⟩ := List.mem_map.mp hv
    rfl)
  clear hR
  go_region_law (refine step_copy_splice rfl (.tmp 20) (.tmp 29) 99 99 rfl 5 bytesKind u8Size (some ⟨tb, 0, none⟩) (some ⟨db, 0, none⟩) 4096 4096 n cd rfl rfl tb 0 cur T HT2.out (bytesV t n) HMIN.out (fun _ => ⟨rfl, _, rfl, HS2.out _ (fun _ => rfl)⟩) HFIT.out HONE.out tb _ (Below.refl _ _) (Nat.le_refl _) ?_; intro V2 hT3 hb3; have HT3 := hT3; have HB3 := Lib.hid hb3; clear hT3 hb3)
  all_goals
    have HR3 : Hid (RdrAt V2 rb db n cd 0 (-1)) := Lib.hid ((HB3.out.block rb hrt).trans HR2.out)
    have HC3 : Hid (∀ i, i < n → V2.cell? ⟨tb, i, none⟩ = some (.int .u8 (t i : Nat))) := Lib.hid fun i hi => by
      rw [Lib.cell_of_heap HT3.out]
      have : (splice cur 0 (bytesV t n))[i]? = some (.int .u8 (t i : Nat)) := by
        unfold splice
        rw [List.take_zero, List.nil_append, List.getElem?_append_left (by rw [bytesV_length]; exact hi), bytesV_at t n i hi]
      simpa using this
    have HK : Hid (∀ k, k < tb → k ≠ rb → V2.heap[k]? = w.heap[k]?) := Lib.hid fun k hk hr => (HB3.out.block k hk).trans (hV.out k hr)
    have HBW : Hid (Below B w V2) := Lib.hid (hBV.out.trans ((Below.refl B V).drew.trans (HB3.out.mono (by omega))))
    have d1 : V2.cell? ⟨rb, 1, none⟩ = some (.int .i64 0) := by rw [Lib.cell_of_heap HR3.out]; rfl
    have d2 : V2.frozen? ⟨rb, 1, none⟩ = false := Lib.frozen_of_heap HR3.out 1
    have HTL := Lib.hid (lt_heap HT3.out)
    have HBL := bytesV_length t n
    rw [HBL]
    clear HT3 HB3 HR2 HT2 HD HS2 HMIN c0 c1 hV hBV hlt hlc HFIT HONE HBL
    go_wp2
    go_ret2
    refine ⟨rfl, ?_, ?_, ?_, ?_, ?_⟩
    · have := Lib.heap_setCell_same (i := 1) HR3.out (.int .i64 (n : Nat))
      exact this
    · intro i hi
      rw [World.cell?_setCell_other _ _ _ _ (fun e => by have := congrArg Addr.block e; dsimp only at this; omega)]
      exact HC3.out i hi
    · intro k hk hr
      rw [Below.heap_setCell _ _ _ _ hr]; exact HK.out k hk hr
    · rw [size_setCell]; exact HTL.out
    · exact HBW.out.setCell (p := ⟨rb, 1, none⟩) hB _

/-- At the end of the data. -/
def ReadEnd (ea : Addr) (w : World) (e : Ending) (w' : World) : Prop := e = .returned (.tuple #[.int .i64 0, .iface 178 (.pointer (some ea))]) ∧ (∀ k : Nat, w'.heap[k]? = w.heap[k]?) ∧ w'.heap.size = w.heap.size ∧ ∀ B, Below B w w'
set_option maxRecDepth 100000 in
set_option maxHeartbeats 4000000 in
theorem readEnd_any (rb db n cd : Nat) (A : Option Addr) (m c : Nat) (x : Int) (ea : Addr) (msg : ByteArray) (w : World) (hn : n ≤ 4000) (hr : RdrAt w rb db n cd n x) (hv : ErrAt w 6 ea msg) :
    Calls Tryd.prog 118 #[.pointer (some ⟨rb, 0, none⟩), .slice A m c] w (ReadEnd ea w) := by
  have c0 : w.cell? ⟨rb, 0, none⟩ = some (.slice (some ⟨db, 0, none⟩) n cd) := by rw [Lib.cell_of_heap hr]; rfl
  have c1 : w.cell? ⟨rb, 1, none⟩ = some (.int .i64 (n : Nat)) := by rw [Lib.cell_of_heap hr]; rfl
  have hg := hv.var
  have hle : (n : Int) ≤ n := Int.le_refl _
  clear hr hv
  go_enter Tryd.func118, Tryd.ntmps118
  go_wp2
  go_quiet (fail)
  go_wp2
  go_quiet (fail)
  go_wp2
  go_ret2
  exact ⟨rfl, fun _ => rfl, rfl, fun B => below_drewN (below_drewN (Below.refl _ _) _) _⟩
end Go.Proofs.YteipeagdflcjjaaDoor
