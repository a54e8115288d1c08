/- gitattributes.ReadAttributes: the lines of a text, read one by one. -/
import Derived.Test.YteipeagdflcjjaaDoorQScD
import Derived.Test.YteipeagdflcjjaaDoorQAmM
import Derived.Test.YteipeagdflcjjaaDoorQAtT
import Derived.Test.YteipeagdflcjjaaDoorQAwakeG
namespace Go.Proofs.YteipeagdflcjjaaDoor.Am
open Go.RowKit
set_option linter.unusedSimpArgs false
set_option linter.unusedVariables false

theorem maInfo : (Tryd.prog.info? 87).map (fun i => (i.zero, i.size, i.bytes)) = some (some (.agg #[.string ⟨#[]⟩, .nilIface, .slice none 0 0]), 3, 56) := by kernel_rfl
theorem masKind : Tryd.prog.underlying 94 = some (.slice 87) := by kernel_rfl
theorem cells_len (L : List MA) : (L.flatMap MA.cells).length = L.length * 3 := by
  induction L with
  | nil => rfl
  | cons a L ih => rw [List.flatMap_cons, List.length_append, ih, List.length_cons]; show 3 + _ = _; omega
theorem news_ma (w : World) (a : MA) : ∀ (j : Nat) (u : Value), a.cells[j]? = some u → (w.alloc (.cells #[.string a.nm, a.pv, .slice a.A a.n a.c] 87)).cell? ((⟨w.heap.size, 0, none⟩ : Addr).add j) = some u := by
  intro j u hj
  have hadd : (⟨w.heap.size, 0, none⟩ : Addr).add j = ⟨w.heap.size, j, none⟩ := by unfold Addr.add; split <;> simp_all
  rw [hadd]
  exact (World.cell?_alloc_mark w #[.string a.nm, a.pv, .slice a.A a.n a.c] 87 (0, 0) j).trans (by rw [← hj]; unfold MA.cells; simp)
theorem one_ma (a : MA) : ∀ u ∈ a.cells, u.oneCell' = true := by
  intro u hu
  unfold MA.cells at hu
  simp at hu
  rcases hu with rfl | rfl | rfl
  · rfl
  · unfold MA.pv; cases a.pat <;> rfl
  · rfl

/-- The text's lines. -/
structure LinesAt (t : Nat → Nat) (n q : Nat) (at_ m : Nat → Nat) : Prop where
  start : at_ 0 = 0
  fin : at_ q = n
  line : ∀ i, i < q → TextLine t n (at_ i) (m i) ∧ at_ (i + 1) = at_ i + m i + 1
theorem LinesAt.le {t : Nat → Nat} {n q : Nat} {at_ m : Nat → Nat} (h : LinesAt t n q at_ m) (i : Nat) (hi : i < q) : at_ i + m i < n := (h.line i hi).1.lt
def lineT (t : Nat → Nat) (k m : Nat) : ByteArray := bs ((List.range m).map fun i => t (k + i))

/-- Where the scanner stands when k lines are read. -/
def RS (B sb rb db n cd : Nat) (t : Nat → Nat) (p k : Nat) (sv : Value) (w : World) : Prop :=
  ScOrd B sb rb db n cd w ∧ ((k = 0 ∧ p = 0 ∧ sv.ownBlock = none ∧ Fresh sb rb db n cd t false w) ∨ (1 ≤ k ∧ ∃ bb tok, InBuf sb rb db n cd t p bb tok w))
def lenV : Value → Nat
  | .slice _ n _ => n
  | _ => 0
def ReadPost (B rb q : Nat) (S : Nat → MA → Prop) (w : World) (e : Ending) (w' : World) : Prop :=
  ∃ (sv : Value) (L : List MA), e = .returned (.tuple #[sv, .nilIface]) ∧ L.length = q ∧ (∀ i a, L[i]? = some a → S i a) ∧ (∃ B2, w.heap.size ≤ B2 ∧ StackAt w' B2 sv L) ∧ Below B w w' ∧ ∀ k, k < w.heap.size → k ≠ rb → w'.heap[k]? = w.heap[k]?
theorem InBuf.kept {sb rb db n cd : Nat} {t : Nat → Nat} {k bb : Nat} {tok : Value} {w w' : World} (h : InBuf sb rb db n cd t k bb tok w) (hk : ∀ q, q = sb ∨ q = rb ∨ q = bb → w'.heap[q]? = w.heap[q]?) : InBuf sb rb db n cd t k bb tok w' :=
  h.of (h.row.of (hk sb (.inl rfl))) (hk rb (.inr (.inl rfl))) (hk bb (.inr (.inr rfl)))
theorem InBuf.lt {sb rb db n cd : Nat} {t : Nat → Nat} {k bb : Nat} {tok : Value} {w : World} (h : InBuf sb rb db n cd t k bb tok w) (hn : 1 ≤ n) : bb < w.heap.size := by
  have := h.cells 0 (by omega)
  exact block_lt_of_cell this

theorem own_ne_buf {w : World} {B sb rb db n cd k bb : Nat} {t : Nat → Nat} {tok sv : Value} {L : List MA} (h : StackAt w B sv L) (hi : InBuf sb rb db n cd t k bb tok w) (hn : 1 ≤ n) (h0 : L = [] → sv.ownBlock = none) : sv.ownBlock ≠ some bb := by
  intro e
  cases L with
  | nil => rw [h0 rfl] at e; cases e
  | cons a r =>
    have h1 := h.1.cells (g := bb) e 0 (.string a.nm) rfl
    have h2 := hi.cells 0 (by omega)
    have hadd : (⟨bb, 0, none⟩ : Addr).add 0 = ⟨bb, 0, none⟩ := by unfold Addr.add; split <;> simp_all
    rw [hadd, h2] at h1
    cases h1
/-- Text: the token as a string. -/
def TextPost2 (s : ByteArray) (w : World) (e : Ending) (w' : World) : Prop := e = .returned (.string s) ∧ w = w'
theorem str_of_nums (l : List Nat) : strOfNums (l.map fun c : Nat => (c : Int)) = bs l := by
  unfold strOfNums bs
  rw [List.map_map]
  congr 2
set_option maxHeartbeats 1000000 in
theorem text_any (sb rb bb k m c : Nat) (t : Nat → Nat) (buf : Value) (st en : Nat) (er : Value) (em : Int) (sc dn : Bool) (w : World) (h : ScRow w sb rb (.slice (some ⟨bb, k, none⟩) m c) buf st en er em sc dn)
    (hc : ∀ i, i < m → w.cell? ⟨bb, k + i, none⟩ = some (.int .u8 (t (k + i) : Nat))) :
    Calls Tryd.prog 65 #[.pointer (some ⟨sb, 0, none⟩)] w (TextPost2 (lineT t k m) w) := by
  have c3 : w.cell? ⟨sb, 3, none⟩ = some (.slice (some ⟨bb, k, none⟩) m c) := h.cells.2.2.2.1
  have hx := run_convert_bytes_arg (P := Tryd.prog) w 99 5 bytesKind (by kernel_rfl) bb k m c (((List.range m).map fun i => t (k + i)).map fun c : Nat => (c : Int)) (by simp) (fun i hi => by
    rw [hc i hi]
    simp [List.getD_eq_getElem?_getD, List.getElem?_range hi]) 9 strKind
  rw [str_of_nums] at hx
  have HX : Hid ((convert 99 9 (.slice (some ⟨bb, k, none⟩) m c)).run Tryd.prog w = .ok (.string (lineT t k m)) w) := Lib.hid hx
  clear hx
  have hx := HX.out
  clear hc h
  obtain ⟨s, hs⟩ : ∃ s, lineT t k m = s := ⟨_, rfl⟩
  rw [hs] at hx
  have HSS := Lib.hid hs; clear hs HX
  go_enter Tryd.func65, Tryd.ntmps65
  go_wp2
  go_ret
  exact ⟨by rw [HSS.out]; rfl, rfl⟩

set_option maxRecDepth 100000 in
set_option maxHeartbeats 8000000 in
theorem readAttributes_any (B rb db n cd q : Nat) (t at_ m : Nat → Nat) (S : Nat → MA → Prop) (dA : Option Addr) (dn dc : Nat) (allow : Bool) (ea : Addr) (msg : ByteArray) (w : World)
    (hn : 1 ≤ n ∧ n ≤ 2000 ∧ n ≤ cd ∧ cd ≤ 9223372036854775807) (hq : q ≤ 1000) (hB : B ≤ rb) (hdr : db ≠ rb) (hlt : rb < w.heap.size ∧ db < w.heap.size) (hr : RdrAt w rb db n cd 0 (-1)) (hcells : ∀ i, i < n → w.cell? ⟨db, i, none⟩ = some (.int .u8 (t i : Nat)))
    (hl : LinesAt t n q at_ m) (hE : ErrAt w 6 ea msg) (hEB : 6 < B ∧ ea.block < B)
    (hp : ∀ i, i < q → ∀ W, Calls Tryd.prog 40 #[.string (lineT t (at_ i) (m i)), .slice dA dn dc, .bool allow] W (LinePost (S i) W)) :
    Calls Tryd.prog 42 #[.iface 97 (.pointer (some ⟨rb, 0, none⟩)), .slice dA dn dc, .bool allow] w (ReadPost B rb q S w) := by
  have HR := Lib.hid hr; have HCE := Lib.hid hcells; have HL := Lib.hid hl; have HE := Lib.hid hE; have HEB := Lib.hid hEB; have HP := Lib.hid hp; have HN := Lib.hid hn
  have HLT := Lib.hid hlt; have HBB := Lib.hid hB; have HDR := Lib.hid hdr
  clear hr hcells hl hE hEB hp hn hlt hB hdr
  obtain ⟨i0, hi, hz0, hz1, hz2⟩ := info_parts maInfo
  go_enter Tryd.func42, Tryd.ntmps42
  go_wp2_with fail
  with_reducible refine (newScanner_any rb w).mono ?_
  rintro e w1 ⟨rfl, hrow, hb1, hs1⟩
  have HS1 : Hid (RS B w.heap.size rb db n cd t 0 0 (.slice none 0 0) w1) := Lib.hid ⟨⟨⟨by have := HBB.out; have := HLT.out; omega, HBB.out⟩, ⟨by have := HLT.out; omega, by have := HLT.out; omega, HDR.out⟩, ⟨by omega, by have := HLT.out; omega, by have := HLT.out; omega⟩, HN.out⟩,
    .inl ⟨rfl, rfl, rfl, hrow, (hb1.block rb HLT.out.1).trans HR.out, fun i hi => (hb1.cell (p := ⟨db, i, none⟩) HLT.out.2).trans (HCE.out i hi)⟩⟩
  have HB1 : Hid (BK B w.heap.size rb w w1) := Lib.hid (BK.fresh hb1 (by have := HBB.out; have := HLT.out; omega))
  have HSZ : Hid (w1.heap.size = w.heap.size + 1) := Lib.hid hs1
  have HE1 : Hid (ErrAt w1 6 ea msg) := Lib.hid (errAt_heap HE.out (fun k hk => hb1.block k (by rcases hk with rfl | rfl; exact HE.out.lt.1; exact HE.out.lt.2)) hb1.size)
  generalize hsb : w.heap.size = sb at *
  have HSB := Lib.hid hsb
  have HRB : Hid (rb < sb) := Lib.hid HLT.out.1
  clear hrow hb1 hs1 hsb HR HCE HE HLT
  go_wp2
  go_loopw [6] (fun sv wr => ∃ L : List MA, L.length ≤ q ∧ lenV sv = L.length ∧ (∀ i a, L[i]? = some a → S i a) ∧ StackAt wr (sb + 1) sv L ∧ RS B sb rb db n cd t (at_ L.length) L.length sv wr ∧ BK B sb rb w wr ∧ ErrAt wr 6 ea msg) (fun sv _ => q - lenV sv)
  case atStart => exact ⟨[], Nat.zero_le _, rfl, fun i a h => (by simp at h), ⟨World.ownsRow_nil _ _ _ _, fun a h => (by cases h)⟩, by rw [show (([] : List MA).length) = 0 from rfl, HL.out.start]; exact HS1.out, HB1.out, HE1.out⟩
  case round =>
    clear HS1 HB1 HE1
    obtain ⟨L, hL, hlen, hS, hst, hrs, hb, hE⟩ := hrel
    have HS := Lib.hid hS; have HST := Lib.hid hst; have HRS := Lib.hid hrs; have HB := Lib.hid hb; have HE := Lib.hid hE; have HLEN := Lib.hid hlen
    clear hS hst hrs hb hE hlen
    by_cases hlt : L.length < q
    · obtain ⟨htl, hnx⟩ := HL.out.line L.length hlt
      have HTL := Lib.hid htl; have HNX := Lib.hid hnx
      clear htl hnx
      have HPH : Hid (Phase B sb rb db n cd t (at_ L.length) false wr) := Lib.hid (by
        rcases HRS.out.2 with ⟨_, h0, _, h⟩ | ⟨_, bb, tok, h⟩
        · exact .inl ⟨h0, h⟩
        · exact .inr ⟨bb, tok, h⟩)
      have HNIL : Hid (L = [] → u6.ownBlock = none) := Lib.hid (by
        rcases HRS.out.2 with ⟨_, _, h, _⟩ | ⟨h, _⟩
        · exact fun _ => h
        · intro e; rw [e] at h; exact absurd h (by decide))
      have HORD : Hid (ScOrd B sb rb db n cd wr) := Lib.hid HRS.out.1
      go_wp2_with fail
      with_reducible refine (scanYes_any B sb rb db n cd (at_ L.length) (m L.length) t wr HORD.out HTL.out HPH.out).mono ?_
      rintro e w2 ⟨rfl, ⟨bb, c, hin⟩, hbk⟩
      have HIN : Hid (InBuf sb rb db n cd t (at_ (L.length + 1)) bb (.slice (some ⟨bb, at_ L.length, none⟩) (m L.length) c) w2) := Lib.hid (by rw [HNX.out]; exact hin)
      have HST2 : Hid (StackAt w2 (sb + 1) u6 L) := Lib.hid (HST.out.kept (fun k hk hB => hbk.kp k hk (by omega) (by have := HRB.out; omega)) hbk.bel.size)
      have HE2 : Hid (ErrAt w2 6 ea msg) := Lib.hid (errAt_heap HE.out (fun k hk => hbk.bel.block k (by rcases hk with rfl | rfl; exact HEB.out.1; exact HEB.out.2)) hbk.bel.size)
      have HB2 : Hid (BK B sb rb w w2) := Lib.hid (HB.out.trans hbk)
      have HO2 : Hid (ScOrd B sb rb db n cd w2) := Lib.hid (HORD.out.of hbk.bel.size)
      have HNB : Hid (u6.ownBlock ≠ some bb) := Lib.hid (own_ne_buf HST2.out HIN.out HN.out.1 HNIL.out)
      clear hin hbk HST HE HB HORD HPH HRS
      go_wp2_with fail
      with_reducible refine (text_any sb rb bb (at_ L.length) (m L.length) c t _ _ _ _ _ _ _ w2 HIN.out.row (fun i hi => HIN.out.cells _ (by have := HTL.out.lt; omega))).mono ?_
      rintro e wt ⟨rfl, rfl⟩
      go_wp2_with fail
      with_reducible refine (HP.out L.length hlt _).mono ?_
      rintro e w3 ⟨a, rfl, hSa, hne, hel, hb3⟩
      have HEL : Hid (ElemAt w3 (fun k => k < sb + 1 ∨ u6.ownBlock = some k) a) := Lib.hid (hel _ (fun k hk => by
        rcases hk with hk | hk
        · have := HO2.out.lt; omega
        · exact (HST2.out.1.lt k hk).2))
      have HST3 : Hid (StackAt w3 (sb + 1) u6 L) := Lib.hid (HST2.out.below hb3)
      have HIN3 : Hid (InBuf sb rb db n cd t (at_ (L.length + 1)) bb (.slice (some ⟨bb, at_ L.length, none⟩) (m L.length) c) w3) := Lib.hid (InBuf.kept HIN.out (fun q hq => hb3.block q (by
        have h1 := HO2.out.lt
        have h2 := InBuf.lt HIN.out HN.out.1
        rcases hq with rfl | rfl | rfl
        · exact h1.1
        · exact h1.2.1
        · exact h2)))
      have HE3 : Hid (ErrAt w3 6 ea msg) := Lib.hid (errAt_heap HE2.out (fun k hk => hb3.block k (by rcases hk with rfl | rfl; exact HE2.out.lt.1; exact HE2.out.lt.2)) hb3.size)
      have HB3 : Hid (BK B sb rb w w3) := Lib.hid (HB2.out.trans (BK.fresh hb3 (by have := HO2.out.base.1; have := HO2.out.lt.1; omega)))
      have HO3 : Hid (ScOrd B sb rb db n cd w3) := Lib.hid (HO2.out.of hb3.size)
      have HSa := Lib.hid hSa
      have hnz : ((a.nm.size : Int) == 0) = false := beq_eq_false_iff_ne.mpr (by omega)
      have HAC : Hid (a.cells = [.string a.nm, a.pv, .slice a.A a.n a.c]) := Lib.hid rfl
      have hpv : a.pv = .nilIface ∨ ∃ pb, a.pv = .iface 152 (.pointer (some ⟨pb, 0, none⟩)) := by
        unfold MA.pv; cases a.pat with
        | none => exact .inl rfl
        | some p => exact .inr ⟨p.1, rfl⟩
      clear hSa hne hel hb3 HST2 HIN HE2 HB2 HO2
      generalize a.pv = pv at *
      generalize a.nm = nm at *
      generalize a.A = aA at *
      generalize a.n = an at *
      generalize a.c = ac at *
      have HXS : Hid (w3.ownsRow (sb + 1) 87 3 u6 L.length (L.flatMap MA.cells)) := Lib.hid HST3.out.1
      generalize hxs : L.flatMap MA.cells = xs at HXS
      have HXE := Lib.hid hxs
      generalize hkk : L.length = k at *
      have HK := Lib.hid hkk
      clear hxs hkk
      rcases hpv with rfl | ⟨pb, rfl⟩
      · skip
        have hnews : ∀ (j : Nat) (u : Value), [Value.string nm, .nilIface, .slice aA an ac][j]? = some u → ((w3.alloc (.cells #[.string nm, .nilIface, .slice aA an ac] 87)).alloc (.cells #[.string nm, .nilIface, .slice aA an ac] 87)).cell? ((⟨w3.heap.size + 1, 0, none⟩ : Addr).add j) = some u := fun j u hj => by
          have hadd : (⟨w3.heap.size + 1, 0, none⟩ : Addr).add j = ⟨w3.heap.size + 1, j, none⟩ := by unfold Addr.add; split <;> simp_all
          rw [hadd]
          have h := World.cell?_alloc_mark (w3.alloc (.cells #[.string nm, .nilIface, .slice aA an ac] 87)) #[.string nm, .nilIface, .slice aA an ac] 87 (0, 0) j
          rw [heap_new_size] at h
          exact h.trans (by rw [← hj]; simp)
        have hone : ∀ u ∈ [Value.string nm, .nilIface, .slice aA an ac], u.oneCell' = true := fun u hu => by
          simp at hu
          rcases hu with rfl | rfl | rfl <;> rfl
        have HNW := Lib.hid hnews; have HON := Lib.hid hone
        have HWH : Hid (Below w3.heap.size w3 ((w3.alloc (.cells #[.string nm, .nilIface, .slice aA an ac] 87)).alloc (.cells #[.string nm, .nilIface, .slice aA an ac] 87))) := Lib.hid (((Below.refl _ _).alloc (Nat.le_refl _) _).alloc (by rw [heap_new_size]; omega) _)
        have HOW : Hid (World.ownsRow ((w3.alloc (.cells #[.string nm, .nilIface, .slice aA an ac] 87)).alloc (.cells #[.string nm, .nilIface, .slice aA an ac] 87)) (sb + 1) 87 3 u6 k xs) := Lib.hid (World.ownsRow.alloc (World.ownsRow.alloc HXS.out _) _)
        clear hnews hone
        go_wp2_with (at_builtin; refine wpList_append_lies _ rfl (.tmp 32) (.tmp 34) 94 rfl (sb + 1) 87 i0 (.agg #[.string ⟨#[]⟩, .nilIface, .slice none 0 0]) 3 56 masKind hi hz0 hz1 hz2 rfl (by decide) _ k xs rfl HOW.out ⟨w3.heap.size + 1, 0, none⟩ 1 1 [.string nm, .nilIface, .slice aA an ac] rfl rfl HNW.out HON.out (by decide) ?c3 ?c4 ?c5 _ rfl ?_)
        case c3 => unfold maxLen; omega
        case c4 => omega
        case c5 => have := HO3.out.lt; first | omega | (rw [heap_new_size, heap_new_size]; omega)
        intro gg cap2 w6 hown6 hgrow hat hlt6
        have HST6 : Hid (StackAt w6 (sb + 1) (.slice (some ⟨gg, 0, none⟩) (k + 1) cap2) (L ++ [a])) := Lib.hid (by
          have h := StackAt.more (g := gg) (cap := cap2) HST3.out HEL.out HWH.out hgrow (by
            rcases hat with h | h
            · exact .inl h
            · right; first | omega | (rw [h, heap_new_size, heap_new_size]; omega)) (by rw [HAC.out, HK.out, HXE.out]; exact hown6)
          rw [HK.out] at h; exact h)
        have hkb : ∀ q0, q0 < w3.heap.size → u6.ownBlock ≠ some q0 → w6.heap[q0]? = w3.heap[q0]? := fun q0 h1 h2 => (hgrow.block q0 (Nat.lt_of_lt_of_le h1 HWH.out.size) (fun e => h2 e.symm)).trans (HWH.out.block q0 h1)
        have hob : ∀ q0, u6.ownBlock = some q0 → sb + 1 ≤ q0 := fun q0 e => (HST3.out.1.lt q0 e).1
        have HIN6 : Hid (InBuf sb rb db n cd t (at_ (k + 1)) bb (.slice (some ⟨bb, at_ k, none⟩) (m k) c) w6) := Lib.hid (InBuf.kept HIN3.out (fun q0 hq => hkb q0 (by
          have h1 := HO3.out.lt
          have h2 := InBuf.lt HIN3.out HN.out.1
          rcases hq with rfl | rfl | rfl
          · exact h1.1
          · exact h1.2.1
          · exact h2) (by
          rcases hq with rfl | rfl | rfl
          · intro e; have := hob _ e; omega
          · intro e; have := hob _ e; have := HRB.out; omega
          · exact HNB.out)))
        have HE6 : Hid (ErrAt w6 6 ea msg) := Lib.hid (errAt_heap HE3.out (fun q0 hk => hkb q0 (by rcases hk with rfl | rfl; exact HE3.out.lt.1; exact HE3.out.lt.2) (by
          have h1 := HEB.out; have h2 := HO3.out.base
          rcases hk with rfl | rfl
          · intro e; have := hob _ e; omega
          · intro e; have := hob _ e; omega)) (Nat.le_trans HWH.out.size hgrow.size))
        have HB6 : Hid (BK B sb rb w w6) := Lib.hid ⟨(HB3.out.bel.trans (HWH.out.mono (by have := HO3.out.base.1; have := HO3.out.lt.1; omega))).grown hgrow (by have := HO3.out.base.1; have := HO3.out.lt.1; have := HWH.out.size; omega) (fun q0 e => by have := hob q0 e; have := HO3.out.base.1; omega), fun k0 h1 h2 h3 => (hkb k0 (Nat.lt_of_lt_of_le h1 HB3.out.bel.size) (fun e => by have := hob _ e; have := HSB.out; omega)).trans (HB3.out.kp k0 h1 h2 h3)⟩
        have HO6 : Hid (ScOrd B sb rb db n cd w6) := Lib.hid (HO3.out.of (Nat.le_trans HWH.out.size hgrow.size))
        clear hown6 hgrow hat hlt6 hkb hob
        go_wp2
        go_roundw
        case rel => exact ⟨L ++ [a], by rw [List.length_append, HK.out]; simp; omega, by rw [List.length_append, HK.out]; rfl, fun i x hx => by
          by_cases hi : i < L.length
          · rw [List.getElem?_append_left hi] at hx; exact HS.out i x hx
          · rw [List.getElem?_append_right (by omega)] at hx
            have h0 : i - L.length = 0 := by
              by_cases h : i - L.length = 0
              · exact h
              · rw [List.getElem?_eq_none (by simp; omega)] at hx; cases hx
            rw [h0] at hx
            simp at hx
            subst hx
            rw [show i = k by rw [← HK.out]; omega]
            exact HSa.out, HST6.out, by rw [List.length_append, HK.out]; exact ⟨HO6.out, .inr ⟨by simp, bb, _, HIN6.out⟩⟩, HB6.out, HE6.out⟩
        case measure => have h1 := HLEN.out; rw [h1]; show q - (k + 1) < q - k; omega
      · skip
        have hnews : ∀ (j : Nat) (u : Value), [Value.string nm, .iface 152 (.pointer (some ⟨pb, 0, none⟩)), .slice aA an ac][j]? = some u → ((w3.alloc (.cells #[.string nm, .iface 152 (.pointer (some ⟨pb, 0, none⟩)), .slice aA an ac] 87)).alloc (.cells #[.string nm, .iface 152 (.pointer (some ⟨pb, 0, none⟩)), .slice aA an ac] 87)).cell? ((⟨w3.heap.size + 1, 0, none⟩ : Addr).add j) = some u := fun j u hj => by
          have hadd : (⟨w3.heap.size + 1, 0, none⟩ : Addr).add j = ⟨w3.heap.size + 1, j, none⟩ := by unfold Addr.add; split <;> simp_all
          rw [hadd]
          have h := World.cell?_alloc_mark (w3.alloc (.cells #[.string nm, .iface 152 (.pointer (some ⟨pb, 0, none⟩)), .slice aA an ac] 87)) #[.string nm, .iface 152 (.pointer (some ⟨pb, 0, none⟩)), .slice aA an ac] 87 (0, 0) j
          rw [heap_new_size] at h
          exact h.trans (by rw [← hj]; simp)
        have hone : ∀ u ∈ [Value.string nm, .iface 152 (.pointer (some ⟨pb, 0, none⟩)), .slice aA an ac], u.oneCell' = true := fun u hu => by
          simp at hu
          rcases hu with rfl | rfl | rfl <;> rfl
        have HNW := Lib.hid hnews; have HON := Lib.hid hone
        have HWH : Hid (Below w3.heap.size w3 ((w3.alloc (.cells #[.string nm, .iface 152 (.pointer (some ⟨pb, 0, none⟩)), .slice aA an ac] 87)).alloc (.cells #[.string nm, .iface 152 (.pointer (some ⟨pb, 0, none⟩)), .slice aA an ac] 87))) := Lib.hid (((Below.refl _ _).alloc (Nat.le_refl _) _).alloc (by rw [heap_new_size]; omega) _)
        have HOW : Hid (World.ownsRow ((w3.alloc (.cells #[.string nm, .iface 152 (.pointer (some ⟨pb, 0, none⟩)), .slice aA an ac] 87)).alloc (.cells #[.string nm, .iface 152 (.pointer (some ⟨pb, 0, none⟩)), .slice aA an ac] 87)) (sb + 1) 87 3 u6 k xs) := Lib.hid (World.ownsRow.alloc (World.ownsRow.alloc HXS.out _) _)
        clear hnews hone
        go_wp2_with (at_builtin; refine wpList_append_lies _ rfl (.tmp 32) (.tmp 34) 94 rfl (sb + 1) 87 i0 (.agg #[.string ⟨#[]⟩, .nilIface, .slice none 0 0]) 3 56 masKind hi hz0 hz1 hz2 rfl (by decide) _ k xs rfl HOW.out ⟨w3.heap.size + 1, 0, none⟩ 1 1 [.string nm, .iface 152 (.pointer (some ⟨pb, 0, none⟩)), .slice aA an ac] rfl rfl HNW.out HON.out (by decide) ?c3 ?c4 ?c5 _ rfl ?_)
        case c3 => unfold maxLen; omega
        case c4 => omega
        case c5 => have := HO3.out.lt; first | omega | (rw [heap_new_size, heap_new_size]; omega)
        intro gg cap2 w6 hown6 hgrow hat hlt6
        have HST6 : Hid (StackAt w6 (sb + 1) (.slice (some ⟨gg, 0, none⟩) (k + 1) cap2) (L ++ [a])) := Lib.hid (by
          have h := StackAt.more (g := gg) (cap := cap2) HST3.out HEL.out HWH.out hgrow (by
            rcases hat with h | h
            · exact .inl h
            · right; first | omega | (rw [h, heap_new_size, heap_new_size]; omega)) (by rw [HAC.out, HK.out, HXE.out]; exact hown6)
          rw [HK.out] at h; exact h)
        have hkb : ∀ q0, q0 < w3.heap.size → u6.ownBlock ≠ some q0 → w6.heap[q0]? = w3.heap[q0]? := fun q0 h1 h2 => (hgrow.block q0 (Nat.lt_of_lt_of_le h1 HWH.out.size) (fun e => h2 e.symm)).trans (HWH.out.block q0 h1)
        have hob : ∀ q0, u6.ownBlock = some q0 → sb + 1 ≤ q0 := fun q0 e => (HST3.out.1.lt q0 e).1
        have HIN6 : Hid (InBuf sb rb db n cd t (at_ (k + 1)) bb (.slice (some ⟨bb, at_ k, none⟩) (m k) c) w6) := Lib.hid (InBuf.kept HIN3.out (fun q0 hq => hkb q0 (by
          have h1 := HO3.out.lt
          have h2 := InBuf.lt HIN3.out HN.out.1
          rcases hq with rfl | rfl | rfl
          · exact h1.1
          · exact h1.2.1
          · exact h2) (by
          rcases hq with rfl | rfl | rfl
          · intro e; have := hob _ e; omega
          · intro e; have := hob _ e; have := HRB.out; omega
          · exact HNB.out)))
        have HE6 : Hid (ErrAt w6 6 ea msg) := Lib.hid (errAt_heap HE3.out (fun q0 hk => hkb q0 (by rcases hk with rfl | rfl; exact HE3.out.lt.1; exact HE3.out.lt.2) (by
          have h1 := HEB.out; have h2 := HO3.out.base
          rcases hk with rfl | rfl
          · intro e; have := hob _ e; omega
          · intro e; have := hob _ e; omega)) (Nat.le_trans HWH.out.size hgrow.size))
        have HB6 : Hid (BK B sb rb w w6) := Lib.hid ⟨(HB3.out.bel.trans (HWH.out.mono (by have := HO3.out.base.1; have := HO3.out.lt.1; omega))).grown hgrow (by have := HO3.out.base.1; have := HO3.out.lt.1; have := HWH.out.size; omega) (fun q0 e => by have := hob q0 e; have := HO3.out.base.1; omega), fun k0 h1 h2 h3 => (hkb k0 (Nat.lt_of_lt_of_le h1 HB3.out.bel.size) (fun e => by have := hob _ e; have := HSB.out; omega)).trans (HB3.out.kp k0 h1 h2 h3)⟩
        have HO6 : Hid (ScOrd B sb rb db n cd w6) := Lib.hid (HO3.out.of (Nat.le_trans HWH.out.size hgrow.size))
        clear hown6 hgrow hat hlt6 hkb hob
        go_wp2
        go_roundw
        case rel => exact ⟨L ++ [a], by rw [List.length_append, HK.out]; simp; omega, by rw [List.length_append, HK.out]; rfl, fun i x hx => by
          by_cases hi : i < L.length
          · rw [List.getElem?_append_left hi] at hx; exact HS.out i x hx
          · rw [List.getElem?_append_right (by omega)] at hx
            have h0 : i - L.length = 0 := by
              by_cases h : i - L.length = 0
              · exact h
              · rw [List.getElem?_eq_none (by simp; omega)] at hx; cases hx
            rw [h0] at hx
            simp at hx
            subst hx
            rw [show i = k by rw [← HK.out]; omega]
            exact HSa.out, HST6.out, by rw [List.length_append, HK.out]; exact ⟨HO6.out, .inr ⟨by simp, bb, _, HIN6.out⟩⟩, HB6.out, HE6.out⟩
        case measure => have h1 := HLEN.out; rw [h1]; show q - (k + 1) < q - k; omega
    · have hLq : L.length = q := by omega
      have HDR0 : Hid (∃ bb tok, Drained sb rb db n cd tok bb .nilIface true wr) := Lib.hid (by
        rcases HRS.out.2 with ⟨h1, _, _, _⟩ | ⟨_, bb, tok, h⟩
        · exfalso
          have h2 := HL.out.fin
          rw [← hLq, h1, HL.out.start] at h2
          have := HN.out.1; omega
        · rw [hLq, HL.out.fin] at h
          exact ⟨bb, tok, h.row, h.rdr, h.ne⟩)
      have HORD : Hid (ScOrd B sb rb db n cd wr) := Lib.hid HRS.out.1
      obtain ⟨bb, tok, hdr⟩ := HDR0.out
      have HDR2 := Lib.hid hdr
      clear hdr HDR0 HRS
      go_wp2_with fail
      with_reducible refine (scanNo_any B sb rb db n cd bb tok ea msg wr HORD.out (.inr HDR2.out) HE.out (by have h1 := HEB.out; have h2 := HORD.out.base; omega)).mono ?_
      rintro e w2 ⟨rfl, ⟨tok2, buf2, hrow2⟩, hbk⟩
      have HR2 := Lib.hid hrow2
      have HST2 : Hid (StackAt w2 (sb + 1) u6 L) := Lib.hid (HST.out.kept (fun k hk hB => hbk.kp k hk (by omega) (by have := HRB.out; omega)) hbk.bel.size)
      have HE2 : Hid (ErrAt w2 6 ea msg) := Lib.hid (errAt_heap HE.out (fun k hk => hbk.bel.block k (by rcases hk with rfl | rfl; exact HEB.out.1; exact HEB.out.2)) hbk.bel.size)
      have HB2 : Hid (BK B sb rb w w2) := Lib.hid (HB.out.trans hbk)
      clear hrow2 hbk
      go_wp2_with fail
      with_reducible refine (scErr_any sb rb tok2 buf2 0 0 ea msg 0 true false w2 HR2.out HE2.out).mono ?_
      rintro e w3 ⟨rfl, m3, hw3⟩
      have HST3 : Hid (StackAt w3 (sb + 1) u6 L) := Lib.hid (by rw [hw3]; exact HST2.out.kept (fun k _ _ => rfl) (Nat.le_refl _))
      have HB3 : Hid (BK B sb rb w w3) := Lib.hid (by rw [hw3]; exact HB2.out.drewN _)
      clear hw3
      go_wp2
      go_ret2
      exact ⟨_, L, rfl, hLq, HS.out, ⟨sb + 1, by rw [HSB.out]; omega, HST3.out⟩, HB3.out.bel, fun k h1 h2 => HB3.out.kp k h1 (by have := HSB.out; omega) h2⟩
end Go.Proofs.YteipeagdflcjjaaDoor.Am
/- A copy of a list of strings by append, also of an empty one; a text's bytes. -/
namespace Go.Proofs.YteipeagdflcjjaaDoor.Am
open Go.RowKit
set_option linter.unusedSimpArgs false
set_option linter.unusedVariables false

def CopyAt (w : World) (n : Nat) (f : Nat → ByteArray) (w' : World) (v : Value) : Prop :=
  ∃ A c, v = .slice A n c ∧ Strs w' A n f ∧ n ≤ c ∧ c ≤ maxLen ∧ Below w.heap.size w w' ∧ ∀ b, A = some b → w.heap.size ≤ b.block
theorem run_copy (w : World) (ty : TypeId) (A : Option Addr) (n c : Nat) (f : Nat → ByteArray) (hn : n ≤ 1000) (h : Strs w A n f) :
    ∃ v w', (Builtin.append_ #[23, 23] ty #[.slice none 0 0, .slice A n c]).run Tryd.prog w = .ok v w' ∧ CopyAt w n f w' v := by
  obtain ⟨i0, hi, hz0, hz1, hz2⟩ := info_parts strInfo
  by_cases h0 : n = 0
  · subst h0
    refine ⟨.slice none 0 0, w, ?_, none, 0, rfl, fun i hi => absurd hi (Nat.not_lt_zero _), Nat.le_refl _, Nat.zero_le _, Below.refl _ _, fun b e => by cases e⟩
    cases A with
    | none => simp [Builtin.append_, run_underlying strsKind, run_underlying strKind, sizeOf, typeInfo, hi, Builtin.lenOf, Builtin.firstCells, loadCells, loadCellsFrom]
    | some a => simp [Builtin.append_, run_underlying strsKind, run_underlying strKind, sizeOf, typeInfo, hi, Builtin.lenOf, Builtin.firstCells, loadCells, loadCellsFrom]
  · obtain ⟨b, off, rfl, _, _⟩ := h.at 0 (by omega)
    obtain ⟨v', w', hr, hown, hg, _⟩ := run_append_own (P := Tryd.prog) w w.heap.size 23 ty 9 i0 (.string ⟨#[]⟩) 1 16 strsKind hi hz0 hz1 hz2 rfl (by decide) (.slice none 0 0) 0 [] (World.ownsRow_nil _ _ _ _) ⟨b, off, none⟩ n c ((pathL f n).map Value.string)
      (by rw [List.length_map, pathL_length, Nat.mul_one]) (path_news h) (path_one _) (by unfold maxLen; omega) (by omega) (Nat.le_refl _)
    refine ⟨v', w', hr, ?_⟩
    have hb : Below w.heap.size w w' := (Below.refl w.heap.size w).grown hg (Nat.le_refl _) (fun q e => by cases e)
    rcases hown.2 with ⟨rfl, hz⟩ | ⟨g, cap, cur, rfl, hrest⟩
    · omega
    · obtain ⟨h1, h2, h3⟩ := path_own hown
      exact ⟨some ⟨g, 0, none⟩, cap, by rw [Nat.zero_add], h1, h2, h3, hb, fun b e => by injection e with e; rw [← e]; exact hrest.1⟩
theorem wp_copy (w : World) {o : Oper} {a : Act} {K : Act → World → Prop} {Q : Exit → Act → World → Prop} (x : Operand)
    (ho : o.op = .call { callee := .builtin .append, args := #[.const (.slice none 0 0), x], argTypes := #[23, 23] }) (A : Option Addr) (n c : Nat) (f : Nat → ByteArray) (hx : a.eval x = .slice A n c) (hn : n ≤ 1000) (hs : Strs w A n f)
    (h : ∀ A' c' w', Strs w' A' n f → n ≤ c' → c' ≤ maxLen → Below w.heap.size w w' → (∀ b, A' = some b → w.heap.size ≤ b.block) → K (a.put o.dst (.slice A' n c')) w') : o.wp Tryd.prog a w K Q := by
  obtain ⟨v, w', hr, A', c', rfl, h1, h2, h3, h4, h5⟩ := run_copy w o.type A n c f hn hs
  unfold Oper.wp execOp
  simp only [ho, resolve, invoke, builtin, Sem.run_bind, Sem.run_pure, Result.andThen_ok, List.map_toArray, List.map_cons, List.map_nil, hx, Act.eval, hr]
  have hx' := hx
  simp only [Act.eval] at hx' ⊢
  first
    | (rw [hx', hr]; exact h A' c' w' h1 h2 h3 h4 h5)
    | (simp only [hx', hr, Result.andThen_ok]; exact h A' c' w' h1 h2 h3 h4 h5)
theorem wpList_copy (w : World) {ops : Array Oper} {rest : List Oper} {o : Oper} {a : Act} {Q : Exit → Act → World → Prop} (hgd : o.guard = none) (x : Operand)
    (ho : o.op = .call { callee := .builtin .append, args := #[.const (.slice none 0 0), x], argTypes := #[23, 23] }) (A : Option Addr) (n c : Nat) (f : Nat → ByteArray) (hx : a.eval x = .slice A n c) (hn : n ≤ 1000) (hs : Strs w A n f)
    (h : ∀ A' c' w', Strs w' A' n f → n ≤ c' → c' ≤ maxLen → Below w.heap.size w w' → (∀ b, A' = some b → w.heap.size ≤ b.block) → wpList Tryd.prog ops Q rest (a.put o.dst (.slice A' n c')) w') : wpList Tryd.prog ops Q (o :: rest) a w :=
  wpList_plain hgd fun _ hK => wp_copy w x ho A n c f hx hn hs fun A' c' w' h2 h3 h4 h5 h6 => hK _ _ (h A' c' w' h2 h3 h4 h5 h6)
theorem step_copy (w : World) {ops : Array Oper} {o : Oper} {a : Act} {K : Act → World → Prop} {Q : Exit → Act → World → Prop} {E : Prop} (hgd : o.guard = none) (x : Operand)
    (ho : o.op = .call { callee := .builtin .append, args := #[.const (.slice none 0 0), x], argTypes := #[23, 23] }) (A : Option Addr) (n c : Nat) (f : Nat → ByteArray) (hx : a.eval x = .slice A n c) (hn : n ≤ 1000) (hs : Strs w A n f)
    (h : ∀ A' c' w', Strs w' A' n f → n ≤ c' → c' ≤ maxLen → Below w.heap.size w w' → (∀ b, A' = some b → w.heap.size ≤ b.block) → K (a.put o.dst (.slice A' n c')) w') :
    if Region.wanted o (yielded ops a.tmps) = true then Oper.wp Tryd.prog o a w K Q else E := by
  have hw : Region.wanted o (yielded ops a.tmps) = true := by simp [Region.wanted, hgd]
  rw [if_pos hw]
  exact wp_copy w x ho A n c f hx hn hs h

/-- '[]byte(s)'. -/
def BytesAt (w : World) (s : ByteArray) (w' : World) (v : Value) : Prop :=
  ∃ c, v = .slice (some ⟨w.heap.size, 0, none⟩) s.size c ∧ s.size ≤ c ∧ c ≤ maxLen ∧ (∀ i, i < s.size → w'.cell? ⟨w.heap.size, i, none⟩ = some (.int .u8 (bx s i : Nat))) ∧ Below w.heap.size w w' ∧ w'.heap.size = w.heap.size + 1
theorem run_bytes (w : World) (s : ByteArray) (hs : s.size ≤ 100000) : ∃ v w', (convert 9 99 (.string s)).run Tryd.prog w = .ok v w' ∧ BytesAt w s w' v := by
  refine ⟨_, _, run_bytes_of_string w 9 99 5 s strKind bytesKind (by kernel_rfl), _, rfl, grownCap_ge w s.size 0 _, grownCap_le_maxLen w s.size 0 _ (by unfold maxLen; omega), fun i hi => ?_, ((Below.refl _ _).drew).alloc (Nat.le_refl _) _, heap_new_size _ _⟩
  have h := World.cell?_alloc_mark w.drew (bytesRow s (grownCap w s.size 0 5)) 5 ((bytesRow s (grownCap w s.size 0 5)).size, (bytesRow s (grownCap w s.size 0 5)).size + 1) i
  refine h.trans ?_
  unfold bytesRow
  rw [Array.getElem?_append_left (by simpa using hi), Array.getElem?_map]
  have hb := bx_get s i hi
  rw [Array.getElem?_eq_getElem (show i < s.data.size from hi), ← hb]
  rfl
end Go.Proofs.YteipeagdflcjjaaDoor.Am
