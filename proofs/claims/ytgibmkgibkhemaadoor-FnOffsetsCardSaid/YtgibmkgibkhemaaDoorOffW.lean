/- OffsetWrite: the code writes a number by sevens of bits. -/
import Derived.Test.YtgibmkgibkhemaaDoorOffE
import Derived.Deep.AppendLies
import Derived.OwnWalk
import Derived.Laws.OwnMore
import Derived.Outline
namespace Go.Proofs.YtgibmkgibkhemaaDoor
open Go.RowKit
set_option linter.unusedSimpArgs false
set_option linter.unusedVariables false

theorem u8Info : (Tryd.prog.info? 5).map (fun i => (i.zero, i.size, i.bytes)) = some (some (.int .u8 0), 1, 1) := by kernel_rfl
def u8v (l : List Nat) : List Value := l.map fun x => Value.int .u8 (x : Nat)
theorem u8v_one (l : List Nat) : ∀ v ∈ u8v l, v.oneCell' = true := by
  intro v hv
  obtain ⟨x, _, rfl⟩ := List.mem_map.mp hv
  rfl
theorem u8v_len (l : List Nat) : (u8v l).length = l.length := by unfold u8v; rw [List.length_map]
/-- The cells of a block are these bytes. -/
def Cells (w : World) (g : Nat) (l : List Nat) : Prop := ∀ i, i < l.length → w.cell? ⟨g, i, none⟩ = some (.int .u8 (l.getD i 0 : Nat))
theorem Cells.news {w : World} {g : Nat} {l : List Nat} (h : Cells w g l) : ∀ j u, (u8v l)[j]? = some u → w.cell? ((⟨g, 0, none⟩ : Addr).add j) = some u := by
  intro j u hu
  have hj : j < l.length := by
    have := (List.getElem?_eq_some_iff.mp hu).1
    rwa [u8v_len] at this
  unfold u8v at hu
  rw [List.getElem?_map, List.getElem?_eq_getElem hj] at hu
  have hu2 := Option.some.inj hu
  dsimp only at hu2
  have hadd : (⟨g, 0, none⟩ : Addr).add j = ⟨g, 0 + j, none⟩ := by unfold Addr.add; split <;> simp_all
  rw [hadd, Nat.zero_add, h j hj, List.getD_eq_getElem?_getD, List.getElem?_eq_getElem hj, ← hu2]
  rfl
theorem Cells.of_own {w : World} {B g n cap : Nat} {l : List Nat} (h : w.ownsRow B 5 1 (.slice (some ⟨g, 0, none⟩) n cap) n (u8v l)) : Cells w g l := by
  intro i hi
  have hn : n = l.length := by have := h.1; rw [u8v_len] at this; omega
  rw [h.cellAt i (by omega)]
  unfold u8v
  rw [List.getElem?_map, List.getElem?_eq_getElem hi, List.getD_eq_getElem?_getD, List.getElem?_eq_getElem hi]
  rfl
theorem Cells.below {w w1 : World} {B g : Nat} {l : List Nat} (h : Cells w g l) (hb : Below B w w1) (hg : g < B) : Cells w1 g l := fun i hi => (hb.cell (p := ⟨g, i, none⟩) hg).trans (h i hi)
theorem Cells.lit (w : World) (x : Nat) : Cells (w.alloc (.cells #[.int .u8 (x : Nat)] 5)) w.heap.size [x] := by
  intro i hi
  have : i = 0 := by simpa using hi
  subst this
  exact World.cell?_alloc_mark w #[Value.int .u8 (x : Nat)] 5 (0, 0) 0

def LinesPost (B lb : Nat) (l : List Nat) (r : Value) (w : World) (e : Ending) (w' : World) : Prop :=
  ∃ g cap : Nat, e = .returned r ∧ B ≤ g ∧ w'.cell? ⟨lb, 0, none⟩ = some (.slice (some ⟨g, 0, none⟩) l.length cap) ∧ Cells w' g l ∧ Below B w w'
set_option maxRecDepth 100000 in
set_option maxHeartbeats 2000000 in
theorem linesWrite_any (B lb g c : Nat) (l : List Nat) (w : World) (hB : B ≤ lb) (h0 : 1 ≤ l.length) (hl : l.length ≤ 1000) (hlb : w.cell? ⟨lb, 0, none⟩ = some (.slice none 0 0)) (hlf : w.frozen? ⟨lb, 0, none⟩ = false) (hc : Cells w g l) :
    Calls Tryd.prog 80 #[.pointer (some ⟨lb, 0, none⟩), .slice (some ⟨g, 0, none⟩) l.length c] w (LinesPost B lb l (.tuple #[.int .i64 l.length, .nilIface]) w) := by
  have HC := Lib.hid hc; clear hc
  have HLB := Lib.hid hlb
  have HLF := Lib.hid hlf
  have hlt : lb < w.heap.size := by
    unfold World.cell? at hlb
    cases hh : w.heap[lb]? with
    | none => rw [hh] at hlb; cases hlb
    | some o => exact (Array.getElem?_eq_some_iff.1 hh).1
  obtain ⟨i0, hi, hz0, hz1, hz2⟩ := info_parts u8Info
  go_enter Tryd.func80, Tryd.ntmps80
  generalize hn : l.length = n at *
  have HN := Lib.hid hn; clear hn
  go_wp2_with (at_builtin; refine wpList_append_lies _ rfl (.tmp 10) (.tmp 11) 38 rfl w.heap.size 5 i0 (.int .u8 0) 1 1 bytesKind hi hz0 hz1 hz2 rfl (by decide) _ 0 [] rfl (World.ownsRow_nil _ _ _ _) ⟨g, 0, none⟩ n c (u8v l) rfl ?c1 (Cells.news HC.out) (u8v_one l) ?c2 ?c3 ?c4 (Nat.le_refl _) _ rfl ?_)
  case c1 => rw [u8v_len, HN.out, Nat.mul_one]
  case c2 => omega
  case c3 => unfold maxLen; omega
  case c4 => omega
  intro g2 cap2 w2 hown hgrow hlies _
  have hg2 : w.heap.size ≤ g2 := by
    rcases hlies with h | h
    · cases h
    · omega
  have HB : Hid (Below w.heap.size w w2) := Lib.hid ((Below.refl _ _).grown hgrow (Nat.le_refl _) (fun k e => by cases e))
  have HC2 : Hid (Cells w2 g2 l) := Lib.hid (Cells.of_own hown)
  have k1 : w2.cell? ⟨lb, 0, none⟩ = some (.slice none 0 0) := (HB.out.cell (p := ⟨lb, 0, none⟩) hlt).trans HLB.out
  have k2 : w2.frozen? ⟨lb, 0, none⟩ = false := (HB.out.frozen (p := ⟨lb, 0, none⟩) hlt).trans HLF.out
  clear hown hgrow hlies hlb hlf
  have k3 : (w2.setCell ⟨lb, 0, none⟩ (.slice (some ⟨g2, 0, none⟩) n cap2)).cell? ⟨lb, 0, none⟩ = some (.slice (some ⟨g2, 0, none⟩) n cap2) := World.cell?_setCell_same _ _ _ k1
  have K3 := Lib.hid k3; clear k3
  go_wp2
  go_ret2
  refine ⟨g2, cap2, rfl, by omega, by rw [HN.out]; exact K3.out, fun i hi => ?_, ?_⟩
  · rw [World.cell?_setCell_other _ _ _ _ (fun e => by have := congrArg Addr.block e; dsimp only at this; omega)]
    exact HC2.out i hi
  · exact (HB.out.mono (by omega)).setCell (p := ⟨lb, 0, none⟩) hB _

set_option maxRecDepth 100000 in
set_option maxHeartbeats 4000000 in
theorem writeVar_any (B lb n : Nat) (w : World) (hB : B ≤ lb) (hn : n ≤ 72057594037927936) (hlb : w.cell? ⟨lb, 0, none⟩ = some (.slice none 0 0)) (hlf : w.frozen? ⟨lb, 0, none⟩ = false) :
    Calls Tryd.prog 16 #[.iface 47 (.pointer (some ⟨lb, 0, none⟩)), .int .i64 (n : Nat)] w (LinesPost B lb (offE n) .nilIface w) := by
  have HLB := Lib.hid hlb
  have HLF := Lib.hid hlf
  have hlt : lb < w.heap.size := by
    unfold World.cell? at hlb
    cases hh : w.heap[lb]? with
    | none => rw [hh] at hlb; cases hlb
    | some o => exact (Array.getElem?_eq_some_iff.1 hh).1
  clear hlb hlf
  obtain ⟨i0, hi, hz0, hz1, hz2⟩ := info_parts u8Info
  have h0 := OffIn.start n hn
  have e0 : bits .and .i64 (n : Int) 127 = ((n % 128 : Nat) : Int) := by rw [i64_and127]; omega
  have hq : n / 128 ≤ 562949953421312 := by omega
  have e3 : ((n : Int)).fdiv (2 ^ min (Int.toNat 7) IntKind.i64.bits) = ((n / 128 : Nat) : Int) := by
    show ((n : Int)).fdiv 128 = _
    rw [Int.fdiv_eq_ediv_of_nonneg _ (by decide)]; push_cast; rfl
  have hy : n % 128 < 128 := Nat.mod_lt _ (by decide)
  generalize n % 128 = y at *
  generalize hqq : n / 128 = q at *
  have HQ := Lib.hid hqq; clear hqq
  have H0 := Lib.hid h0
  have e1 : IntKind.u8.wrap (y : Int) = (y : Int) := by rw [IntKind.wrap_u8]; omega
  clear h0 hy
  go_enter Tryd.func16, Tryd.ntmps16
  go_wp2
  clear e0 e1 e3
  go_loopw [1, 5] (fun m s wr => ∃ (mm g c : Nat) (l : List Nat), m = .int .i64 (mm : Nat) ∧ s = .slice (some ⟨g, 0, none⟩) l.length c ∧ mm ≤ 562949953421312 ∧ w.heap.size ≤ g ∧ g < wr.heap.size ∧ OffIn n mm l ∧ Cells wr g l ∧ Below w.heap.size w wr) (fun m _ _ => (intOf m).toNat)
  case atStart => exact ⟨q, w.heap.size, 1, [y], congrArg (Value.int .i64) (by have := HQ.out; omega), rfl, hq, Nat.le_refl _, by rw [heap_new_size]; omega, H0.out, Cells.lit w y, (Below.refl _ _).alloc (Nat.le_refl _) _⟩
  case round =>
    clear HQ hq H0
    obtain ⟨mm, g, c, l, rfl, rfl, hmm, hg, hgl, hst, hcl, hbel⟩ := hrel
    have hsl := hst.len
    have hsl1 := hst.1
    have HST := Lib.hid hst; clear hst
    have HB := Lib.hid hbel; clear hbel
    have HCL := Lib.hid hcl; clear hcl
    by_cases h0 : mm = 0
    · subst h0
      have HF := Lib.hid HST.out.fin
      have k1 : Hid (wr.cell? ⟨lb, 0, none⟩ = some (.slice none 0 0)) := Lib.hid ((HB.out.cell (p := ⟨lb, 0, none⟩) hlt).trans HLB.out)
      have k2 : Hid (wr.frozen? ⟨lb, 0, none⟩ = false) := Lib.hid ((HB.out.frozen (p := ⟨lb, 0, none⟩) hlt).trans HLF.out)
      have hna : ∀ (b : Nat) (w : World), (nilAhead 261 47 (.pointer (some ⟨b, 0, none⟩)) "Write").run Tryd.prog w = .ok (some false) w := fun _ _ => by kernel_rfl
      have hme : ∀ (b : Nat) (w : World), (method 261 47 (.pointer (some ⟨b, 0, none⟩)) "Write").run Tryd.prog w = .ok (80, .pointer (some ⟨b, 0, none⟩)) w := fun _ _ => by kernel_rfl
      go_wp2_with fail
      with_reducible refine (linesWrite_any B lb g c l wr hB hsl1 (by omega) k1.out k2.out HCL.out).mono ?_
      rintro e w' ⟨g2, cap2, rfl, hg2, hc2, hcc, hb2⟩
      have HB2 : Hid (Below B w w') := Lib.hid ((HB.out.mono (by omega)).trans hb2)
      have HC2 := Lib.hid hc2
      have HCC := Lib.hid hcc
      clear hc2 hcc hb2
      go_wp2
      go_ret
      exact ⟨g2, cap2, rfl, hg2, by rw [← HF.out]; exact HC2.out, by rw [← HF.out]; exact HCC.out, HB2.out⟩
    · obtain ⟨hs1, hs2⟩ := HST.out.step h0
      have hpos : ((mm : Int) == 0) = false := beq_eq_false_iff_ne.mpr (by omega)
      have hpos1 : (1 : Int) ≤ mm := by omega
      obtain ⟨pp, rfl⟩ : ∃ p, mm = p + 1 := ⟨mm - 1, by omega⟩
      rw [Nat.add_sub_cancel] at hs1
      have es : ((pp + 1 : Nat) : Int) - 1 = (pp : Int) := by omega
      have ep : ((pp : Int) + 1) - 1 = (pp : Int) := by omega
      have e0 : bits .and .i64 (pp : Int) 127 = ((pp % 128 : Nat) : Int) := by rw [i64_and127]; omega
      have e3 : ((pp : Int)).fdiv (2 ^ min (Int.toNat 7) IntKind.i64.bits) = ((pp / 128 : Nat) : Int) := by
        show ((pp : Int)).fdiv 128 = _
        rw [Int.fdiv_eq_ediv_of_nonneg _ (by decide)]; push_cast; rfl
      have hy : pp % 128 < 128 := Nat.mod_lt _ (by decide)
      have hz : pp / 128 ≤ 562949953421312 := by omega
      generalize pp % 128 = y at *
      generalize hzz : pp / 128 = z at *
      have HZ := Lib.hid hzz; clear hzz
      have e1 : IntKind.u8.wrap (y : Int) = (y : Int) := by rw [IntKind.wrap_u8]; omega
      have e2 : bits .or .u8 128 (y : Int) = ((128 + y : Nat) : Int) := by
        rw [show bits .or .u8 128 (y : Int) = bits .or .u8 (y : Int) 128 by simp only [bits, BitVec.or_comm], u8_or128_right (y : Int) (by omega) (by omega)]; omega
      generalize 128 + y = x at *
      have HS1 := Lib.hid hs1
      clear hs1 h0
      go_upto_region 5 with (fail)
      generalize hl : l.length = len at *
      have HL := Lib.hid hl; clear hl
      have HO := Lib.hid (World.ownsRow_lit (base := w.heap.size) (e := 5) (size := 1) wr #[.int .u8 (x : Nat)] 1 (by have := HB.out.size; omega) (by decide) rfl)
      have HC2 : Hid (Cells (wr.alloc (.cells #[.int .u8 (x : Nat)] 5)) g l) := Lib.hid fun i hi => (((Below.refl wr.heap.size wr).alloc (Nat.le_refl _) _).cell (p := ⟨g, i, none⟩) hgl).trans (HCL.out i hi)
      go_wp2_with (at_builtin; refine wpList_append_lies _ rfl (.tmp 22) (.tmp 23) 38 rfl w.heap.size 5 i0 (.int .u8 0) 1 1 bytesKind hi hz0 hz1 hz2 rfl (by decide) _ 1 _ rfl HO.out ⟨g, 0, none⟩ len c (u8v l) rfl ?c1 (Cells.news HC2.out) (u8v_one l) ?c2 ?c3 ?c4 ?c5 _ rfl ?_)
      case c1 => rw [u8v_len, HL.out]
      case c2 => omega
      case c3 => unfold maxLen; omega
      case c4 => omega
      case c5 => have := HB.out.size; omega
      intro g2 cap2 w2 hown hgrow hlies hg2l
      have HO2 := Lib.hid hown
      have HG2 : Hid (w.heap.size ≤ g2) := Lib.hid ((World.ownsRow.lt hown g2 rfl).1)
      have HB2 : Hid (Below w.heap.size w w2) := Lib.hid ((HB.out.alloc HB.out.size _).grown hgrow (by rw [heap_new_size]; have := HB.out.size; omega) (fun q e => by
        have : wr.heap.size = q := by simpa [Value.ownBlock] using e
        have := HB.out.size
        omega))
      clear hown hgrow hlies
      go_wp2
      go_roundw
      case rel => exact ⟨z, g2, cap2, x :: l, congrArg (Value.int .i64) (by have := HZ.out; omega), by rw [List.length_cons, HL.out, Nat.add_comm], hz, HG2.out, hg2l, HS1.out, Cells.of_own (l := x :: l) HO2.out, HB2.out⟩
      case measure => have := HZ.out; simp [intOf]; omega

set_option maxRecDepth 100000 in
set_option maxHeartbeats 4000000 in
theorem offWrite_any (n : Nat) (w : World) (hn : n ≤ 72057594037927936) :
    Calls Tryd.prog 9 #[.int .i64 (n : Nat)] w (OffPost n w) := by
  have hne := offE_ne n
  go_enter Tryd.func9, Tryd.ntmps9
  go_wp2_with fail
  have k1 : (w.alloc (.cells #[.slice none 0 0] 45)).cell? ⟨w.heap.size, 0, none⟩ = some (.slice none 0 0) := World.cell?_alloc_mark w _ 45 (0, 0) 0
  have k2 : (w.alloc (.cells #[.slice none 0 0] 45)).frozen? ⟨w.heap.size, 0, none⟩ = false := by first | simp | rfl
  have k3 : Below w.heap.size w (w.alloc (.cells #[.slice none 0 0] 45)) := (Below.refl _ _).alloc (Nat.le_refl _) _
  generalize w.alloc _ = W at k1 k2 k3 ⊢
  have K3 := Lib.hid k3; clear k3
  have HW := Lib.hid (writeVar_any w.heap.size w.heap.size n W (Nat.le_refl _) hn k1 k2)
  clear k1 k2
  with_reducible refine HW.out.mono ?_
  rintro e w' ⟨g, cap, rfl, hg, hcell, hcc, hb⟩
  have HB : Hid (Below w.heap.size w w') := Lib.hid (K3.out.trans hb)
  have hlt256 : ∀ c ∈ offE n, c < 256 := by
    intro c hc
    obtain ⟨i, hi, rfl⟩ := List.getElem_of_mem hc
    obtain ⟨h1, h2⟩ := offE_at n i hi
    by_cases e : i + 1 < (offE n).length
    · exact (h1 e).2
    · have := h2 (by omega); omega
  have hcv : (convert 38 9 (.slice (some ⟨g, 0, none⟩) (offE n).length cap)).run Tryd.prog w' = .ok (.string (strOfNums ((offE n).map fun x : Nat => (x : Int)))) w' :=
    run_convert_bytes_arg w' 38 5 bytesKind byteKind g 0 (offE n).length cap _ (by simp) (fun i hi => by
      rw [Nat.zero_add, hcc i hi, List.getD_eq_getElem?_getD, List.getD_eq_getElem?_getD, List.getElem?_map, List.getElem?_eq_getElem hi]
      rfl) 9 strKind
  have HR := Lib.hid (nb_strOfNums (offE n) hlt256)
  generalize strOfNums ((offE n).map fun x : Nat => (x : Int)) = r at hcv HR
  generalize (offE n).length = len at *
  clear hb hcc hlt256 HW
  go_wp2
  go_ret
  exact ⟨r, rfl, HR.out, HB.out⟩
end Go.Proofs.YtgibmkgibkhemaaDoor
