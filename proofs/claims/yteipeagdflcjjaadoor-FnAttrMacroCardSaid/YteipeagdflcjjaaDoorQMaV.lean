/- gitattributes' matcher with macros: init, NewMatcher, expandMacro, Match. Printed by wip/gen_mam.py. -/
import Derived.Test.YteipeagdflcjjaaDoorQAmX
import Derived.Deep.RegionHeld
import Derived.Test.YteipeagdflcjjaaDoorQAmV
import Derived.Test.YteipeagdflcjjaaDoorQMaP
namespace Go.Proofs.YteipeagdflcjjaaDoor.Am
open Go.RowKit
open Go.Maps (Keyed string_keyed)
set_option linter.unusedSimpArgs false
set_option linter.unusedVariables false

theorem step_mapUpdate {H : Type} {P : Program} (w : World) {ops : Array Oper} {o : Oper} {a : Act} {K : Act → World → Prop} {Q : Exit → Act → World → Prop} {E : Prop}
    (hg : o.guard = none) (m x v : Operand) (t : TypeId) (hop : o.op = Op.mapUpdate t m x v)
    (k e : TypeId) (K' : Keyed P k) (ht : P.underlying t = some (.map k e)) (R : Value → Option (DataW H × List MemPlace)) (b n : Nat) (D : DataW H)
    (hm : a.eval m = .map (some b)) (hown : w.ownsMap P k R b n D) (hn : n < maxLen) (key val : Value) (kl : Lit) (hx : a.eval x = key) (hv : a.eval v = val) (hkey : keyOf P k key = some kl)
    (d : DataW H) (ps : List MemPlace) (hval : R val = some (d, ps))
    (hK : ∀ w', w'.ownsMap P k R b (n + 1) (D.put kl d) → w.grownBy w' (some b) → K (a.put o.dst undef) w') :
    if Region.wanted o (yielded ops a.tmps) = true then Oper.wp P o a w K Q else E := by
  have hw : Region.wanted o (yielded ops a.tmps) = true := by simp [Region.wanted, hg]
  rw [if_pos hw]
  obtain ⟨w', hrun, r1, r2⟩ := hown.update K' ht hn hkey hval
  unfold Oper.wp
  simp [execOp, hop, hm, hx, hv, hrun, Result.andThen]
  exact hK w' r1 r2

theorem ready_mapUpdate {H : Type} {P : Program} {md : Region.Mode} {ops : Array Oper} {Q : Exit → Act → World → Prop} {S : World → Prop} {fuel : Nat} {listed : Array Bool} {a : Act} {w : World} {i : Nat} {o : Oper} (ho : ops[i]? = some o)
    (hg : o.guard = none) (m x v : Operand) (t : TypeId) (hop : o.op = Op.mapUpdate t m x v)
    (k e : TypeId) (K' : Keyed P k) (ht : P.underlying t = some (.map k e)) (R : Value → Option (DataW H × List MemPlace)) (b n : Nat) (D : DataW H)
    (hm : a.eval m = .map (some b)) (hown : w.ownsMap P k R b n D) (hn : n < maxLen) (key val : Value) (kl : Lit) (hx : a.eval x = key) (hv : a.eval v = val) (hkey : keyOf P k key = some kl)
    (d : DataW H) (ps : List MemPlace) (hval : R val = some (d, ps))
    (hS : ∀ w', w'.ownsMap P k R b (n + 1) (D.put kl d) → w.grownBy w' (some b) → S w')
    (hK : ∀ w', w'.ownsMap P k R b (n + 1) (D.put kl d) → w.grownBy w' (some b) → wpAnyH P md ops Q S fuel (listed.setIfInBounds i true) (a.put o.dst undef) w') : AllReadyH P md ops Q S fuel listed a w [i] :=
  AllReadyH.cons ho (fun K2 hK2 => step_mapUpdate w hg m x v t hop k e K' ht R b n D hm hown hn key val kl hx hv hkey d ps hval fun w' h1 h2 => hK2.out _ _ (hS w' h1 h2) fun _ => hK w' h1 h2) AllReadyH.nil

/-! ## What the macros are -/
def maV (a : MA) : Value := .agg #[.string a.nm, a.pv, .slice a.A a.n a.c]
def macOf (L : List MA) : Nat → ByteArray → Option MA
  | 0 => fun _ => none
  | k + 1 => fun s => match L[k]? with
    | some a => if a.pat.isNone = true ∧ nb s = nb a.nm then some a else macOf L k s
    | none => macOf L k s
def macs (L : List MA) (k : Nat) : MapV := fun s => (macOf L k s).map maV
theorem macs_none {L : List MA} {k : Nat} {a : MA} (h : L[k]? = some a) (hp : a.pat = none) : macs L (k + 1) = upd (macs L k) a.nm (maV a) := by
  funext s
  unfold macs upd
  rw [show macOf L (k + 1) s = if a.pat.isNone = true ∧ nb s = nb a.nm then some a else macOf L k s by unfold macOf; rw [h]; cases k <;> rfl]
  by_cases e : nb s = nb a.nm
  · rw [if_pos ⟨by rw [hp]; rfl, e⟩, if_pos e]; rfl
  · rw [if_neg (fun h => e h.2), if_neg e]
theorem macs_some {L : List MA} {k : Nat} {a : MA} (h : L[k]? = some a) (hp : a.pat ≠ none) : macs L (k + 1) = macs L k := by
  funext s
  unfold macs
  rw [show macOf L (k + 1) s = if a.pat.isNone = true ∧ nb s = nb a.nm then some a else macOf L k s by unfold macOf; rw [h]; cases k <;> rfl]
  rw [if_neg (fun h => by cases hq : a.pat with | none => exact hp hq | some p => rw [hq] at h; exact absurd (show false = true from h.1) (by decide))]
theorem macOf_mem {L : List MA} {s : ByteArray} {m : MA} : ∀ k, macOf L k s = some m → m ∈ L ∧ nb s = nb m.nm := by
  intro k
  induction k with
  | zero => intro h; cases h
  | succ k ih =>
    intro h
    unfold macOf at h
    cases ha : L[k]? with
    | none => rw [ha] at h; exact ih h
    | some a =>
      rw [ha] at h
      dsimp only at h
      split at h
      · next hc =>
        injection h with h
        subst h
        exact ⟨List.mem_of_getElem? ha, hc.2⟩
      · exact ih h

def InitPostM (mb : Nat) (sv : Value) (L : List MA) (w : World) (e : Ending) (w' : World) : Prop :=
  ∃ macb N K, (∃ r, e = .returned r) ∧ MatAt w' mb macb sv ∧ MapIs w' macb N (macs L L.length) K ∧ Below mb w w'
set_option maxRecDepth 100000 in
set_option maxHeartbeats 4000000 in
theorem initM_any (mb : Nat) (sv : Value) (L : List MA) (w : World) (hL : L.length ≤ 1000) (hnm : ∀ a ∈ L, a.nm.size ≤ maxLen) (hr : RowsAt w sv L) (hm : w.heap[mb]? = some (.cells #[sv, .map none] 139 (0, 0))) (hne : ∀ b, sv.ownBlock = some b → b ≠ mb) :
    Calls Tryd.prog 67 #[.pointer (some ⟨mb, 0, none⟩)] w (InitPostM mb sv L w) := by
  have c0 : w.cell? ⟨mb, 0, none⟩ = some sv := by rw [Lib.cell_of_heap hm]; rfl
  have c1 : w.cell? ⟨mb, 1, none⟩ = some (.map none) := by rw [Lib.cell_of_heap hm]; rfl
  have f1 : w.frozen? ⟨mb, 1, none⟩ = false := Lib.frozen_of_heap hm 1
  have hlt : mb < w.heap.size := (Array.getElem?_eq_some_iff.1 hm).1
  obtain ⟨A, c, rfl, hlm, hrow⟩ := hr
  have HR := Lib.hid hrow; have HM := Lib.hid hm; have HPA := Lib.hid hnm; have HNE := Lib.hid hne; have HLT := Lib.hid hlt
  clear hrow hm hnm hne
  go_enter Tryd.func67, Tryd.ntmps67
  have hmk := run_makeMap (P := Tryd.prog) 137 w
  have f1' : (w.alloc (.map #[] 0)).frozen? ⟨mb, 1, none⟩ = false := (World.frozen?_of_block (a := ⟨mb, 1, none⟩) (Below.heap_alloc _ _ _ hlt)).trans f1
  go_upto_region 1 with (fail)
  clear hmk c0 c1 f1 f1' hlt
  have hbl : ∀ k, k < w.heap.size → k ≠ mb → ((w.setCell ⟨mb, 1, none⟩ (.map (some w.heap.size))).alloc (.map #[] 0)).heap[k]? = w.heap[k]? := fun k h1 h2 =>
    (Below.heap_alloc _ _ _ (by rw [size_setCell]; exact h1)).trans (Below.heap_setCell _ _ _ _ h2)
  have HW : Hid (MatAt ((w.setCell ⟨mb, 1, none⟩ (.map (some w.heap.size))).alloc (.map #[] 0)) mb w.heap.size (.slice A L.length c)) := Lib.hid ((Below.heap_alloc _ _ _ (by rw [size_setCell]; exact HLT.out)).trans (Lib.heap_setCell_same (i := 1) HM.out (.map (some w.heap.size))))
  have HMW : Hid (MapIs ((w.setCell ⟨mb, 1, none⟩ (.map (some w.heap.size))).alloc (.map #[] 0)) w.heap.size 0 (fun _ => none) 0) := Lib.hid (by have h := MapIs.made (w.setCell ⟨mb, 1, none⟩ (.map (some w.heap.size))); rwa [size_setCell] at h)
  have HBW : Hid (Below mb w ((w.setCell ⟨mb, 1, none⟩ (.map (some w.heap.size))).alloc (.map #[] 0))) := Lib.hid (((Below.refl _ _).setCell (p := ⟨mb, 1, none⟩) (Nat.le_refl _) _).alloc (by rw [size_setCell]; exact Nat.le_of_lt HLT.out) _)
  have HSZ : Hid (w.heap.size ≤ ((w.setCell ⟨mb, 1, none⟩ (.map (some w.heap.size))).alloc (.map #[] 0)).heap.size) := Lib.hid (by rw [heap_new_size, size_setCell]; omega)
  have HRW : Hid (∀ (k : Nat) (a : MA), L[k]? = some a → ∃ b, A = some ⟨b, 0, none⟩ ∧ b < w.heap.size ∧ ((w.setCell ⟨mb, 1, none⟩ (.map (some w.heap.size))).alloc (.map #[] 0)).cell? ⟨b, k * 3, none⟩ = some (.string a.nm) ∧
      ((w.setCell ⟨mb, 1, none⟩ (.map (some w.heap.size))).alloc (.map #[] 0)).cell? ⟨b, k * 3 + 1, none⟩ = some a.pv ∧ ((w.setCell ⟨mb, 1, none⟩ (.map (some w.heap.size))).alloc (.map #[] 0)).cell? ⟨b, k * 3 + 2, none⟩ = some (.slice a.A a.n a.c)) := Lib.hid (fun k a hk => by
    obtain ⟨b, e, hl, d0, d1, d2⟩ := HR.out k a hk
    have hb := hbl b hl (HNE.out b (by rw [e]; rfl))
    exact ⟨b, e, hl, (World.cell?_of_block (a := ⟨b, _, none⟩) hb).trans d0, (World.cell?_of_block (a := ⟨b, _, none⟩) hb).trans d1, (World.cell?_of_block (a := ⟨b, _, none⟩) hb).trans d2⟩)
  clear hbl HR
  have HSZ2 : Hid (w.heap.size < ((w.setCell ⟨mb, 1, none⟩ (.map (some w.heap.size))).alloc (.map #[] 0)).heap.size) := Lib.hid (by rw [heap_new_size, size_setCell]; omega)
  have HMBL : Hid (mb < w.heap.size) := Lib.hid HLT.out
  have HSZ0 := HSZ.out
  generalize (w.setCell ⟨mb, 1, none⟩ (.map (some w.heap.size))).alloc (.map #[] 0) = W at HW HMW HBW HRW HSZ HSZ2 ⊢
  generalize w.heap.size = macb at HW HMW HRW HSZ2 HMBL HSZ
  have c0 : W.cell? ⟨mb, 0, none⟩ = some (.slice A L.length c) := by rw [Lib.cell_of_heap HW.out]; rfl
  clear HSZ0
  generalize hn : L.length = n at *
  have HN := Lib.hid hn; clear hn
  go_wp2
  clear c0
  go_loopw [13] (fun i wr => ∃ k N K : Nat, k ≤ n ∧ i = .int .i64 (k : Nat) ∧ N ≤ k ∧ MapIs wr macb N (macs L k) K ∧ Below macb W wr) (fun i _ => n - (intOf i).toNat)
  case atStart => exact ⟨0, 0, 0, Nat.zero_le _, rfl, Nat.le_refl _, HMW.out, Below.refl _ _⟩
  case round =>
    obtain ⟨k, N, K, hk, rfl, hNk, hmap, hb⟩ := hrel
    have HB := Lib.hid hb; have HMAP := Lib.hid hmap
    clear hmap
    by_cases hlt : k < n
    · obtain ⟨a, ha⟩ : ∃ a, L[k]? = some a := ⟨L[k]'(by rw [HN.out]; exact hlt), List.getElem?_eq_getElem _⟩
      obtain ⟨b, rfl, hbl, d0, d1, d2⟩ := HRW.out k a ha
      have d0 := (hb.cell (p := ⟨b, k * 3, none⟩) hbl).trans d0
      have d1 := (hb.cell (p := ⟨b, k * 3 + 1, none⟩) hbl).trans d1
      have d2 := (hb.cell (p := ⟨b, k * 3 + 2, none⟩) hbl).trans d2
      have HNS := Lib.hid (HPA.out a (List.mem_of_getElem? ha))
      clear hb
      cases hp : a.pat with
      | some p =>
        have hpv : a.pv = .iface 152 (.pointer (some ⟨p.1, 0, none⟩)) := by unfold MA.pv; rw [hp]
        rw [hpv] at d1
        have HMS : Hid (macs L (k + 1) = macs L k) := Lib.hid (macs_some ha (by rw [hp]; exact fun e => by cases e))
        clear ha hpv hp
        generalize a.nm = nm at *
        generalize a.A = aA at *
        generalize a.n = an at *
        generalize a.c = ac at *
        go_wp2
        go_roundw
        case rel => exact ⟨k + 1, N, K, by omega, by go_num, by omega, by rw [HMS.out]; exact HMAP.out.kept (Below.heap_alloc _ _ _ HMAP.out.lt), HB.out.alloc (by have := HB.out.size; have := HSZ2.out; omega) _⟩
        case measure => simp [intOf]; omega
      | none =>
        have hpv : a.pv = .nilIface := by unfold MA.pv; rw [hp]
        rw [hpv] at d1
        have HMS : Hid (macs L (k + 1) = upd (macs L k) a.nm (.agg #[.string a.nm, .nilIface, .slice a.A a.n a.c])) := Lib.hid (by rw [macs_none ha hp]; unfold maV; rw [hpv])
        clear ha hpv hp
        generalize a.nm = nm at *
        generalize a.A = aA at *
        generalize a.n = an at *
        generalize a.c = ac at *
        have hall : ∀ t v, (#[Value.string nm, .nilIface, .slice aA an ac] : Array Value)[t]? = some v → (wr.alloc (.cells #[.string nm, .nilIface, .slice aA an ac] 87)).cell? ⟨wr.heap.size, t, none⟩ = some v := fun t v h => (World.cell?_alloc_mark wr #[.string nm, .nilIface, .slice aA an ac] 87 (0, 0) t).trans h
        have X := Lib.hid (And.intro (hall 0 _ rfl) (And.intro (hall 1 _ rfl) (hall 2 _ rfl)))
        clear hall
        have HB2 : Hid (Below macb W (wr.alloc (.cells #[.string nm, .nilIface, .slice aA an ac] 87))) := Lib.hid (HB.out.alloc (by have := HB.out.size; have := HSZ2.out; omega) _)
        have HM2 : Hid (MapIs (wr.alloc (.cells #[.string nm, .nilIface, .slice aA an ac] 87)) macb N (macs L k) K) := Lib.hid (HMAP.out.kept (Below.heap_alloc _ _ _ HMAP.out.lt))
        go_upto_region 5 with (fail)
        have HXM : Hid (macb < wr.heap.size) := Lib.hid HMAP.out.lt
        have hxl : wr.heap.size < (wr.alloc (.cells #[.string nm, .nilIface, .slice aA an ac] 87)).heap.size := by rw [heap_new_size]; exact Nat.lt_succ_self _
        clear d0 d1 d2
        generalize wr.alloc (.cells #[.string nm, .nilIface, .slice aA an ac] 87) = wj at *
        generalize wr.heap.size = xb at *
        obtain ⟨x0, x1, x2⟩ := X.out
        have c1j : wj.cell? ⟨mb, 1, none⟩ = some (.map (some macb)) := by rw [Lib.cell_of_heap ((HB2.out.block mb HMBL.out).trans HW.out)]; rfl
        have C1J := Lib.hid c1j
        have hmbl : mb < wj.heap.size := by have := HB2.out.size; have := HSZ2.out; have := HMBL.out; omega
        have hmbm : mb ≠ macb := by have := HMBL.out; omega
        have hxbm : xb ≠ macb := by have := HXM.out; omega
        obtain ⟨D, ho, hd⟩ := HM2.out
        clear c1j x0 x1 x2
        refine wp_region_held_drew (S := fun w' => w'.cell? ⟨mb, 1, none⟩ = some (.map (some macb)) ∧ w'.cell? ⟨xb, 0, none⟩ = some (.string nm) ∧ w'.cell? ⟨xb, 1, none⟩ = some .nilIface ∧ w'.cell? ⟨xb, 2, none⟩ = some (.slice aA an ac)) (by kernel_rfl) ⟨C1J.out, X.out⟩ ?_
        intro hSW
        have HBD : Hid (Below wj.heap.size wj wj.drew) := Lib.hid (Below.refl _ _).drew
        replace ho : wj.drew.ownsMap Tryd.prog 9 RV macb N D := ho
        generalize wj.drew = wd at hSW HBD ho ⊢
        have HSW := Lib.hid hSW
        clear hSW
        refine wpAnyH_take (i := 0) (v := .pointer (some ⟨mb, 0, none⟩)) rfl (by kernel_rfl) (by kernel_rfl) (by kernel_rfl) (fun _ _ _ h => h) (Or.inl ⟨by kernel_rfl, by intro w hS; go_simp⟩) HSW.out ?_
        refine wpAnyH_take (i := 1) (v := .pointer (some ⟨mb, 0, none⟩)) rfl (by kernel_rfl) (by kernel_rfl) (by kernel_rfl) (fun _ _ _ h => h) (Or.inl ⟨by kernel_rfl, by intro w hS; go_simp⟩) HSW.out ?_
        refine wpAnyH_take (i := 2) (v := .pointer (some ⟨mb, 1, none⟩)) rfl (by kernel_rfl) (by kernel_rfl) (by kernel_rfl) (fun _ _ _ h => h) (Or.inl ⟨by kernel_rfl, by intro w hS; go_simp⟩) HSW.out ?_
        refine wpAnyH_take (i := 3) (v := .map (some macb)) rfl (by kernel_rfl) (by kernel_rfl) (by kernel_rfl) (fun _ _ _ h => h) (Or.inl ⟨by kernel_rfl, by intro w hS; obtain ⟨s0, s1, s2, s3⟩ := hS; go_simp⟩) HSW.out ?_
        refine wpAnyH_take (i := 4) (v := .pointer (some ⟨xb, 0, none⟩)) rfl (by kernel_rfl) (by kernel_rfl) (by kernel_rfl) (fun _ _ _ h => h) (Or.inl ⟨by kernel_rfl, by intro w hS; go_simp⟩) HSW.out ?_
        refine wpAnyH_take (i := 5) (v := .string nm) rfl (by kernel_rfl) (by kernel_rfl) (by kernel_rfl) (fun _ _ _ h => h) (Or.inl ⟨by kernel_rfl, by intro w hS; obtain ⟨s0, s1, s2, s3⟩ := hS; go_simp⟩) HSW.out ?_
        refine wpAnyH_take (i := 6) (v := .agg #[.string nm, .nilIface, .slice aA an ac]) rfl (by kernel_rfl) (by kernel_rfl) (by kernel_rfl) (fun _ _ _ h => h) (Or.inl ⟨by kernel_rfl, by intro w hS; obtain ⟨s0, s1, s2, s3⟩ := hS; go_simp⟩) HSW.out ?_
        refine wpAnyH_ready (rs := [7]) (by kernel_rfl) (by simp) ?_
        refine ready_mapUpdate (o := ?oo) ?ho ?hg (.tmp 23) (.tmp 25) (.tmp 26) 137 ?hop 9 87 strKeyed macMap RV macb N D ?hm ho ?hn (.string nm) (.agg #[.string nm, .nilIface, .slice aA an ac]) (kl nm) ?hx ?hv (key_of nm HNS.out) (.held (.agg #[.string nm, .nilIface, .slice aA an ac])) [] rfl (fun w6 _ hg6 => ?hS) (fun w6 ho6 hg6 => ?hK)
        case ho => rfl
        case hg => rfl
        case hop => rfl
        case hn => unfold maxLen; omega
        case hm => kernel_rfl
        case hx => kernel_rfl
        case hv => kernel_rfl
        case hS =>
          obtain ⟨s0, s1, s2, s3⟩ := HSW.out
          have hk : ∀ q, q < wd.heap.size → q ≠ macb → w6.heap[q]? = wd.heap[q]? := fun q h1 h2 => hg6.block q h1 (fun e => by injection e with e; exact h2 e)
          have l1 : mb < wd.heap.size := World.block_lt_of_cell? wd _ s0
          have l2 : xb < wd.heap.size := World.block_lt_of_cell? wd _ s1
          exact ⟨(World.cell?_of_block (hk mb l1 hmbm)).trans s0, (World.cell?_of_block (hk xb l2 hxbm)).trans s1, (World.cell?_of_block (hk xb l2 hxbm)).trans s2, (World.cell?_of_block (hk xb l2 hxbm)).trans s3⟩
        case hK =>
          have HMP := Lib.hid (MapIs.put ho hd ho6)
          have HB6 : Hid (Below macb W w6) := Lib.hid ((HB2.out.trans (HBD.out.mono (by have := HB2.out.size; have := HSZ2.out; omega))).grown hg6 (by have := HB2.out.size; have := HBD.out.size; have := HSZ2.out; omega) (fun q e => by injection e with e; omega))
          clear ho hd ho6 hg6
          refine wpAnyH_done (by kernel_rfl) ?_ _
          go_wp2
          go_roundw
          case rel => exact ⟨k + 1, N + 1, _, by omega, by go_num, by omega, by rw [HMS.out]; exact HMP.out, HB6.out⟩
          case measure => simp [intOf]; omega
    · obtain rfl : k = n := by omega
      clear hb
      go_wp2
      first | go_end0 | refine bodyPost_ret (results_none rfl _ _ _) rfl ?_
      refine ⟨macb, N, K, ⟨_, rfl⟩, (HB.out.block mb HMBL.out).trans HW.out, by rw [HN.out]; exact HMAP.out, HBW.out.trans (HB.out.mono (Nat.le_of_lt HMBL.out))⟩

def NewMPostM (sv : Value) (L : List MA) (w : World) (e : Ending) (w' : World) : Prop :=
  ∃ macb N K, e = .returned (.iface 136 (.pointer (some ⟨w.heap.size, 0, none⟩))) ∧ MatAt w' w.heap.size macb sv ∧ MapIs w' macb N (macs L L.length) K ∧ Below w.heap.size w w'
set_option maxHeartbeats 1000000 in
theorem newMatcherM_any (sv : Value) (L : List MA) (w : World) (hL : L.length ≤ 1000) (hpat : ∀ a ∈ L, a.nm.size ≤ maxLen) (hr : RowsAt w sv L) (hlt : ∀ b, sv.ownBlock = some b → b < w.heap.size) :
    Calls Tryd.prog 44 #[sv] w (NewMPostM sv L w) := by
  have hb : Below w.heap.size w (w.alloc (.cells #[sv, .map none] 139)) := (Below.refl _ _).alloc (Nat.le_refl _) _
  have HR2 : Hid (RowsAt (w.alloc (.cells #[sv, .map none] 139)) sv L) := Lib.hid (hr.below hb)
  have HB := Lib.hid hb
  have HPA := Lib.hid hpat; have HLT := Lib.hid hlt
  obtain ⟨A, c, rfl, _, _⟩ := hr
  clear hpat hlt hb
  go_enter Tryd.func44, Tryd.ntmps44
  go_wp2_with fail
  with_reducible refine (initM_any w.heap.size _ L _ hL HPA.out HR2.out (heap_new w _) (fun b e => by have := HLT.out b e; omega)).mono ?_
  rintro e w2 ⟨macb, N, K, ⟨r, rfl⟩, hm, hmap, hb2⟩
  have HM := Lib.hid hm; have HMA := Lib.hid hmap; have HB2 := Lib.hid (HB.out.trans hb2)
  clear hm hmap hb2
  go_wp2
  go_ret
  exact ⟨macb, N, K, rfl, HM.out, HMA.out, HB2.out⟩


set_option maxRecDepth 100000 in
theorem look_yes {w : World} {b N K : Nat} {M : MapV} {v : Value} (h : MapIs w b N M K) (s : ByteArray) (hs : s.size ≤ maxLen) (h0 : M s = some v) :
    (Instr.lookup 137 (.map (some b)) (.string s) true).run Tryd.prog w = .ok (.tuple #[v, .bool true]) w := by
  obtain ⟨D, ho, hd⟩ := h
  obtain ⟨v', ps, h1, h2⟩ := ho.look_ok strKeyed macMap (zero_ma w) (zd := .held zeroMA) (zp := []) rfl (key_of s hs)
  have hf : Maps.has D (kl s) = true := by rw [hd.has, h0]; rfl
  rw [hf] at h1
  rw [hd.at_ s v h0] at h2
  injection h2 with h2
  injection h2 with h2 _
  injection h2 with h2
  subst h2
  exact h1
/-- What a macro's attributes are where they are read. -/
def MacOk (w : World) (m : MA) : Prop := m.n ≤ 1000 ∧ Rd w m.A m.n (fun i => attrV (m.att i)) ∧ ∀ i, i < m.n → (m.att i).1.size ≤ maxLen
def expR (mac : ByteArray → Option MA) (r : RM) (s : ByteArray) : RM := match mac s with
  | some m => r.puts m.n m.att
  | none => r
def ExpPost (rb Nr : Nat) (r : RM) (w : World) (e : Ending) (w' : World) : Prop := e = .returned (.bool false) ∧ (∃ N, N ≤ Nr + 1000 ∧ ResAt w' rb N r) ∧ Below rb w w'
set_option maxRecDepth 100000 in
set_option maxHeartbeats 4000000 in
theorem expand_any (mb macb N K rb Nr : Nat) (mac : ByteArray → Option MA) (s : ByteArray) (r : RM) (w0 w : World) (hs : s.size ≤ maxLen) (hrb : w0.heap.size = rb) (hb : Below rb w0 w) (h1 : w.cell? ⟨mb, 1, none⟩ = some (.map (some macb)))
    (hm : MapIs w macb N (fun s => (mac s).map maV) K) (hmac : ∀ m, mac s = some m → MacOk w0 m) (hres : ResAt w rb Nr r) (hNr : Nr ≤ 100000000000) :
    Calls Tryd.prog 127 #[.pointer (some ⟨mb, 0, none⟩), .string s, .map (some rb)] w (ExpPost rb Nr (expR mac r s) w) := by
  have HRES := Lib.hid hres; have HB0 := Lib.hid hb
  have HRL : Hid (rb < w.heap.size) := Lib.hid (MapIs.lt hres)
  cases hq : mac s with
  | none =>
    have hl := look_none hm s hs (by rw [hq]; rfl)
    unfold zeroMA at hl
    have HR : Hid (expR mac r s = r) := Lib.hid (by unfold expR; rw [hq])
    clear hm hmac hres hq hb
    go_enter Tryd.func127, Tryd.ntmps127
    go_wp2
    go_ret
    exact ⟨rfl, ⟨Nr, by omega, by rw [HR.out]; exact HRES.out.kept (Below.heap_alloc _ _ _ HRL.out)⟩, (Below.refl rb w).alloc (Nat.le_of_lt HRL.out) _⟩
  | some m =>
    have hl := look_yes hm s hs (by rw [hq]; rfl)
    unfold maV at hl
    obtain ⟨han, hatts, hsizes⟩ := hmac m hq
    have HATTS := Lib.hid hatts; have HSIZES := Lib.hid hsizes
    have HR : Hid (expR mac r s = r.puts m.n m.att) := Lib.hid (by unfold expR; rw [hq])
    have hpv : ∃ T u, m.pv = .iface T u ∨ m.pv = .nilIface := by
      unfold MA.pv
      cases m.pat with
      | none => exact ⟨0, .bool true, .inr rfl⟩
      | some p => exact ⟨_, _, .inl rfl⟩
    obtain ⟨T, u, hpv⟩ := hpv
    clear hm hmac hres hq hb hatts hsizes
    have HBA : Hid (∀ pv, Below rb w (w.alloc (.cells #[.string m.nm, pv, .slice m.A m.n m.c] 87))) := Lib.hid fun pv => (Below.refl rb w).alloc (Nat.le_of_lt HRL.out) _
    have HRA : Hid (∀ pv, ResAt (w.alloc (.cells #[.string m.nm, pv, .slice m.A m.n m.c] 87)) rb Nr r) := Lib.hid fun pv => HRES.out.kept (Below.heap_alloc _ _ _ HRL.out)
    have HNA : Hid (∀ pv : Value, True) := Lib.hid fun _ => trivial
    have n1 : ∀ (a : ByteArray) (x : Nat) (b : ByteArray) (w : World), (nilAhead 321 127 (.agg #[.string a, .int .u8 (x : Nat), .string b]) "Name").run Tryd.prog w = .ok (some false) w := fun _ _ _ _ => by kernel_rfl
    have m1 : ∀ (a : ByteArray) (x : Nat) (b : ByteArray) (w : World), (method 321 127 (.agg #[.string a, .int .u8 (x : Nat), .string b]) "Name").run Tryd.prog w = .ok (123, .agg #[.string a, .int .u8 (x : Nat), .string b]) w := fun _ _ _ _ => by kernel_rfl
    generalize m.pv = pv at *
    generalize m.A = aA at *
    generalize m.n = an at *
    generalize m.c = ac at *
    generalize m.nm = mnm at *
    go_enter Tryd.func127, Tryd.ntmps127
    rcases hpv with rfl | rfl
    · go_upto_region 3 with (fail)
      clear hl h1
      have hc : (w.alloc (.cells #[.string mnm, (.iface T u), .slice aA an ac] 87)).cell? ⟨w.heap.size, 2, none⟩ = some (.slice aA an ac) := World.cell?_alloc_mark w #[.string mnm, (.iface T u), .slice aA an ac] 87 (0, 0) 2
      have HBW := Lib.hid (HBA.out (.iface T u)); have HRW := Lib.hid (HRA.out (.iface T u))
      generalize w.alloc (.cells #[.string mnm, (.iface T u), .slice aA an ac] 87) = W at hc HBW HRW ⊢
      go_upto_region 4 with (fail)
      clear hc
      go_loopw [24] (fun iv wr => ∃ q : Nat, q ≤ an ∧ iv = .int .i64 (q : Nat) ∧ ResAt wr rb (Nr + q) (r.puts q m.att) ∧ Below rb w wr) (fun iv _ => an - (intOf iv).toNat)
      case atStart => exact ⟨0, Nat.zero_le _, rfl, HRW.out, HBW.out⟩
      case round =>
        clear HRW HBW
        obtain ⟨q, hq, rfl, hres, hbel⟩ := hrel
        have HRES2 := Lib.hid hres; have HB := Lib.hid hbel
        clear hres hbel
        by_cases hlt : q < an
        · obtain ⟨b2, o2, hA2, hb2l, hcA⟩ := HATTS.out q hlt
          have hltI : (q : Int) < an := by omega
          have hcB := ((HB0.out.trans HB.out).cell (p := ⟨b2, o2 + q, none⟩) (show b2 < rb from by omega)).trans hcA
          have HSZ := Lib.hid (HSIZES.out q hlt)
          obtain ⟨⟨s1, x1, v1⟩, haq⟩ : ∃ y, m.att q = y := ⟨_, rfl⟩
          rw [haq] at HSZ
          have HSZ : Hid (s1.size ≤ maxLen) := HSZ
          have HAQ := Lib.hid haq
          have hc2 : wr.cell? ⟨b2, o2 + q, none⟩ = some (.iface 127 (.agg #[.string s1, .int .u8 (x1 : Nat), .string v1])) := hcB.trans (by show some (attrV (m.att q)) = _; rw [haq]; rfl)
          clear haq hcA hcB
          subst hA2
          go_wp2_with fail
          with_reducible refine (m_name s1 x1 v1 _).mono ?_
          rintro e w5b ⟨rfl, hb5⟩
          have hrw : rb < wr.heap.size := MapIs.lt HRES2.out
          have HB5 : Hid (Below rb w w5b) := Lib.hid (HB.out.trans (hb5.mono (by omega)))
          have HR5 : Hid (ResAt w5b rb (Nr + q) (r.puts q m.att)) := Lib.hid (HRES2.out.kept (hb5.block rb (MapIs.lt HRES2.out)))
          clear hb5
          have hsz := HSZ.out
          obtain ⟨D, ho, hd⟩ := HR5.out
          go_wp2_with (at_mapUpdate; refine wpList_mapUpdate_own _ rfl _ _ _ 100 rfl 9 92 strKeyed attMap RV rb (Nr + q) D rfl ho (by unfold maxLen; omega) _ _ (kl s1) rfl rfl (key_of s1 hsz) (.held (attrV (s1, x1, v1))) [] rfl ?_)
          intro w6 ho6 hg6
          have HR6 : Hid (ResAt w6 rb (Nr + (q + 1)) (r.puts (q + 1) m.att)) := Lib.hid (by
            have h := MapIs.put ho hd ho6
            rw [RM.puts_succ, HAQ.out]
            unfold ResAt
            rw [RM.val_put]
            have hk : ((r.puts q m.att).put (s1, x1, v1)).K = if ((r.puts q m.att).val s1).isSome then (r.puts q m.att).K else (r.puts q m.att).K + 1 := by
              unfold RM.put RM.val
              dsimp only
              cases (r.puts q m.att).M s1 <;> rfl
            rw [hk]
            exact h)
          have HB6 : Hid (Below rb w w6) := Lib.hid (HB5.out.grown hg6 (by have := HB5.out.size; have := HRL.out; omega) (fun k e => by injection e with e; omega))
          clear ho hd ho6 hg6 HR5 HB5
          go_wp2
          go_roundw
          case rel => exact ⟨q + 1, by omega, by go_num, HR6.out, HB6.out⟩
          case measure => simp [intOf]; omega
        · obtain rfl : q = an := by omega
          go_wp2
          go_ret
          exact ⟨rfl, ⟨Nr + q, by omega, by rw [HR.out]; exact HRES2.out⟩, HB.out⟩
    · go_upto_region 3 with (fail)
      clear hl h1
      have hc : (w.alloc (.cells #[.string mnm, .nilIface, .slice aA an ac] 87)).cell? ⟨w.heap.size, 2, none⟩ = some (.slice aA an ac) := World.cell?_alloc_mark w #[.string mnm, .nilIface, .slice aA an ac] 87 (0, 0) 2
      have HBW := Lib.hid (HBA.out .nilIface); have HRW := Lib.hid (HRA.out .nilIface)
      generalize w.alloc (.cells #[.string mnm, .nilIface, .slice aA an ac] 87) = W at hc HBW HRW ⊢
      go_upto_region 4 with (fail)
      clear hc
      go_loopw [24] (fun iv wr => ∃ q : Nat, q ≤ an ∧ iv = .int .i64 (q : Nat) ∧ ResAt wr rb (Nr + q) (r.puts q m.att) ∧ Below rb w wr) (fun iv _ => an - (intOf iv).toNat)
      case atStart => exact ⟨0, Nat.zero_le _, rfl, HRW.out, HBW.out⟩
      case round =>
        clear HRW HBW
        obtain ⟨q, hq, rfl, hres, hbel⟩ := hrel
        have HRES2 := Lib.hid hres; have HB := Lib.hid hbel
        clear hres hbel
        by_cases hlt : q < an
        · obtain ⟨b2, o2, hA2, hb2l, hcA⟩ := HATTS.out q hlt
          have hltI : (q : Int) < an := by omega
          have hcB := ((HB0.out.trans HB.out).cell (p := ⟨b2, o2 + q, none⟩) (show b2 < rb from by omega)).trans hcA
          have HSZ := Lib.hid (HSIZES.out q hlt)
          obtain ⟨⟨s1, x1, v1⟩, haq⟩ : ∃ y, m.att q = y := ⟨_, rfl⟩
          rw [haq] at HSZ
          have HSZ : Hid (s1.size ≤ maxLen) := HSZ
          have HAQ := Lib.hid haq
          have hc2 : wr.cell? ⟨b2, o2 + q, none⟩ = some (.iface 127 (.agg #[.string s1, .int .u8 (x1 : Nat), .string v1])) := hcB.trans (by show some (attrV (m.att q)) = _; rw [haq]; rfl)
          clear haq hcA hcB
          subst hA2
          go_wp2_with fail
          with_reducible refine (m_name s1 x1 v1 _).mono ?_
          rintro e w5b ⟨rfl, hb5⟩
          have hrw : rb < wr.heap.size := MapIs.lt HRES2.out
          have HB5 : Hid (Below rb w w5b) := Lib.hid (HB.out.trans (hb5.mono (by omega)))
          have HR5 : Hid (ResAt w5b rb (Nr + q) (r.puts q m.att)) := Lib.hid (HRES2.out.kept (hb5.block rb (MapIs.lt HRES2.out)))
          clear hb5
          have hsz := HSZ.out
          obtain ⟨D, ho, hd⟩ := HR5.out
          go_wp2_with (at_mapUpdate; refine wpList_mapUpdate_own _ rfl _ _ _ 100 rfl 9 92 strKeyed attMap RV rb (Nr + q) D rfl ho (by unfold maxLen; omega) _ _ (kl s1) rfl rfl (key_of s1 hsz) (.held (attrV (s1, x1, v1))) [] rfl ?_)
          intro w6 ho6 hg6
          have HR6 : Hid (ResAt w6 rb (Nr + (q + 1)) (r.puts (q + 1) m.att)) := Lib.hid (by
            have h := MapIs.put ho hd ho6
            rw [RM.puts_succ, HAQ.out]
            unfold ResAt
            rw [RM.val_put]
            have hk : ((r.puts q m.att).put (s1, x1, v1)).K = if ((r.puts q m.att).val s1).isSome then (r.puts q m.att).K else (r.puts q m.att).K + 1 := by
              unfold RM.put RM.val
              dsimp only
              cases (r.puts q m.att).M s1 <;> rfl
            rw [hk]
            exact h)
          have HB6 : Hid (Below rb w w6) := Lib.hid (HB5.out.grown hg6 (by have := HB5.out.size; have := HRL.out; omega) (fun k e => by injection e with e; omega))
          clear ho hd ho6 hg6 HR5 HB5
          go_wp2
          go_roundw
          case rel => exact ⟨q + 1, by omega, by go_num, HR6.out, HB6.out⟩
          case measure => simp [intOf]; omega
        · obtain rfl : q = an := by omega
          go_wp2
          go_ret
          exact ⟨rfl, ⟨Nr + q, by omega, by rw [HR.out]; exact HRES2.out⟩, HB.out⟩

def putX (mac : ByteArray → Option MA) (r : RM) (a : AttrT) : RM := (if a.2.1 = 1 then expR mac r a.1 else r).put a
def putsX (mac : ByteArray → Option MA) (r : RM) (n : Nat) (att : Nat → AttrT) : RM := (List.range n).foldl (fun r i => putX mac r (att i)) r
theorem putsX_succ (mac : ByteArray → Option MA) (r : RM) (n : Nat) (att : Nat → AttrT) : putsX mac r (n + 1) att = putX mac (putsX mac r n att) (att n) := by
  unfold putsX
  rw [List.range_succ, List.foldl_append]; rfl
theorem put_K (r : RM) (a : AttrT) : (r.put a).K = if (r.val a.1).isSome then r.K else r.K + 1 := by
  unfold RM.put RM.val
  dsimp only
  cases r.M a.1 <;> rfl
/-- The lines from the last one on: macros are passed over; those whose pattern hits lay their attributes, and what the macros among them stand for. -/
def mgoX (nn : Nat) (hit : Nat → Bool) (mac : ByteArray → Option MA) (L : List MA) : Nat → RM → Bool → RM × Bool
  | 0, r, m => (r, m)
  | k + 1, r, m => if 0 < nn ∧ nn = r.K then (r, m) else match L[k]? with
    | none => (r, m)
    | some a => if a.pat.isNone = true then mgoX nn hit mac L k r m else if hit k = true then mgoX nn hit mac L k (putsX mac r a.n a.att) true else mgoX nn hit mac L k r m

set_option maxRecDepth 100000 in
set_option maxHeartbeats 8000000 in
theorem mMatchX_any (mb macb N0 K0 : Nat) (mac : ByteArray → Option MA) (sv : Value) (L : List MA) (pA nA : Option Addr) (pn pc nn nc : Nat) (hit : Nat → Bool) (w : World) (hL : L.length ≤ 1000) (hm : MatAt w mb macb sv) (hmac : MapIs w macb N0 (fun s => (mac s).map maV) K0) (hmok : ∀ s m, mac s = some m → MacOk w m) (hr : RowsAt w sv L)
    (hatt : ∀ (k : Nat) (a : MA), L[k]? = some a → a.n ≤ 1000 ∧ Rd w a.A a.n (fun i => attrV (a.att i)) ∧ ∀ i, i < a.n → (a.att i).1.size ≤ maxLen) (hnn : nn ≤ 1000)
    (hhit : ∀ (k : Nat) (a : MA), L[k]? = some a → a.pat ≠ none → ∃ pb, a.pv = .iface 152 (.pointer (some ⟨pb, 0, none⟩)) ∧ ∀ W, Below w.heap.size w W → Calls Tryd.prog 135 #[.pointer (some ⟨pb, 0, none⟩), .slice pA pn pc] W (HitPost (hit k) W)) :
    Calls Tryd.prog 126 #[.pointer (some ⟨mb, 0, none⟩), .slice pA pn pc, .slice nA nn nc] w (fun e w' => ∃ N, MatchRes (mgoX nn hit mac L L.length RM.empty false).1 (mgoX nn hit mac L L.length RM.empty false).2 N w e w') := by
  obtain ⟨A, c, rfl, hlm, hrow⟩ := hr
  have HR := Lib.hid hrow; have HM := Lib.hid hm; have HMAC := Lib.hid hmac; have HATT := Lib.hid hatt; have HHIT := Lib.hid hhit; have HMOK := Lib.hid hmok
  clear hrow hm hmac hatt hhit hmok
  have HMB : Hid (mb < w.heap.size) := Lib.hid (Array.getElem?_eq_some_iff.1 HM.out).1
  obtain ⟨FIN, hfin⟩ : ∃ FIN, mgoX nn hit mac L L.length RM.empty false = FIN := ⟨_, rfl⟩
  have HFIN := Lib.hid hfin
  clear hfin
  have hna : ∀ (b : Nat) (w : World), (nilAhead 321 152 (.pointer (some ⟨b, 0, none⟩)) "Match").run Tryd.prog w = .ok (some false) w := fun _ _ => by kernel_rfl
  have hme : ∀ (b : Nat) (w : World), (method 321 152 (.pointer (some ⟨b, 0, none⟩)) "Match").run Tryd.prog w = .ok (135, .pointer (some ⟨b, 0, none⟩)) w := fun _ _ => by kernel_rfl
  have n1 : ∀ (a : ByteArray) (x : Nat) (b : ByteArray) (w : World), (nilAhead 321 127 (.agg #[.string a, .int .u8 (x : Nat), .string b]) "Name").run Tryd.prog w = .ok (some false) w := fun _ _ _ _ => by kernel_rfl
  have n3 : ∀ (a : ByteArray) (x : Nat) (b : ByteArray) (w : World), (nilAhead 321 127 (.agg #[.string a, .int .u8 (x : Nat), .string b]) "IsSet").run Tryd.prog w = .ok (some false) w := fun _ _ _ _ => by kernel_rfl
  have m1 : ∀ (a : ByteArray) (x : Nat) (b : ByteArray) (w : World), (method 321 127 (.agg #[.string a, .int .u8 (x : Nat), .string b]) "Name").run Tryd.prog w = .ok (123, .agg #[.string a, .int .u8 (x : Nat), .string b]) w := fun _ _ _ _ => by kernel_rfl
  have m3 : ∀ (a : ByteArray) (x : Nat) (b : ByteArray) (w : World), (method 321 127 (.agg #[.string a, .int .u8 (x : Nat), .string b]) "IsSet").run Tryd.prog w = .ok (119, .agg #[.string a, .int .u8 (x : Nat), .string b]) w := fun _ _ _ _ => by kernel_rfl
  have hmk := makeHint w nn
  go_enter Tryd.func126, Tryd.ntmps126
  go_upto_region 2 with (fail)
  clear hmk
  have HW0 : Hid (ResAt (w.alloc (.map #[] 0)) w.heap.size 0 RM.empty) := Lib.hid (MapIs.made w)
  have HB0 : Hid (Below w.heap.size w (w.alloc (.map #[] 0))) := Lib.hid ((Below.refl _ _).alloc (Nat.le_refl _) _)
  generalize w.alloc (.map #[] 0) = W0 at HW0 HB0 ⊢
  generalize hrb : w.heap.size = rb at *
  have HRBE := Lib.hid hrb; clear hrb
  have cell0 : ∀ W, Below rb w W → W.cell? ⟨mb, 0, none⟩ = some (.slice A L.length c) := fun W hb => by
    rw [Lib.cell_of_heap ((hb.block mb HMB.out).trans HM.out)]; rfl
  have C0 := Lib.hid cell0
  clear cell0
  have c0 := C0.out W0 HB0.out
  generalize hn : L.length = n at *
  have HN := Lib.hid hn; clear hn
  go_wp2
  clear c0
  go_loopw [7, 9] (fun mv iv wr => ∃ (j N : Nat) (r : RM) (m : Bool), j ≤ n ∧ mv = .bool m ∧ iv = .int .i64 ((j : Int) - 1) ∧ N ≤ (n - j) * 2000000 ∧ ResAt wr rb N r ∧ mgoX nn hit mac L j r m = FIN ∧ Below rb w wr) (fun _ iv _ => (intOf iv + 1).toNat)
  case atStart => exact ⟨n, 0, RM.empty, false, Nat.le_refl _, rfl, rfl, Nat.zero_le _, HW0.out, HFIN.out, HB0.out⟩
  case round =>
    clear HW0 HB0
    obtain ⟨j, N, r, m, hj, rfl, hiv, hNb, hres, hgo, hbel⟩ := hrel
    have HRES := Lib.hid hres; have HGO := Lib.hid hgo; have HB := Lib.hid hbel
    clear hres hgo hbel
    have HEND : Hid (mgoX nn hit mac L j r m = (r, m) → ∀ W, ResAt W rb N r → Below rb w W → ∃ N', MatchRes (mgoX nn hit mac L L.length RM.empty false).1 (mgoX nn hit mac L L.length RM.empty false).2 N' w (.returned (.tuple #[.map (some rb), .bool m])) W) := Lib.hid (fun h W h1 h2 => by
      have hf : mgoX nn hit mac L L.length RM.empty false = (r, m) := by rw [HN.out, HFIN.out, ← HGO.out, h]
      rw [hf]
      exact ⟨N, by rw [HRBE.out], by rw [HRBE.out]; exact h1, by rw [HRBE.out]; exact h2⟩)
    cases j with
    | zero =>
      have hiv2 : u9 = .int .i64 (-1) := hiv
      clear hiv
      subst hiv2
      go_wp2
      go_ret2
      exact HEND.out rfl _ HRES.out HB.out
    | succ j =>
      have hiv2 : u9 = .int .i64 (j : Nat) := hiv.trans (congrArg (Value.int .i64) (by omega))
      clear hiv
      subst hiv2
      obtain ⟨a, ha⟩ : ∃ a, L[j]? = some a := ⟨L[j]'(by rw [HN.out]; omega), List.getElem?_eq_getElem _⟩
      have hlen := HRES.out.len
      go_upto_region 6 with (fail)
      go_cut [37] (fun v wx => v = .bool (decide (0 < nn ∧ nn = r.K)) ∧ wx = wr)
      case first =>
        by_cases h0 : 0 < nn
        · have h0' : (0 : Int) < nn := by omega
          by_cases h1 : nn = r.K
          · have q1 : ((nn : Int) == (r.K : Int)) = true := beq_iff_eq.mpr (by omega)
            have HD : Hid (decide (0 < nn ∧ nn = r.K) = true) := Lib.hid (decide_eq_true ⟨h0, h1⟩)
            clear h1
            go_wp2
            go_meet
            case rel => exact ⟨by rw [HD.out], rfl⟩
          · have q1 : ((nn : Int) == (r.K : Int)) = false := beq_eq_false_iff_ne.mpr (by omega)
            have HD : Hid (decide (0 < nn ∧ nn = r.K) = false) := Lib.hid (decide_eq_false (fun h => h1 h.2))
            clear h1
            go_wp2
            go_meet
            case rel => exact ⟨by rw [HD.out], rfl⟩
        · have h0' : ¬ (0 : Int) < nn := by omega
          have HD : Hid (decide (0 < nn ∧ nn = r.K) = false) := Lib.hid (decide_eq_false (fun h => h0 h.1))
          go_wp2
          go_meet
          case rel => exact ⟨by rw [HD.out], rfl⟩
      case rest =>
      obtain ⟨rfl, hwx⟩ := hcut
      have hwx' := hwx.symm
      clear hwx hlen
      subst hwx'
      cases hfull : decide (0 < nn ∧ nn = r.K) with
      | true =>
        have HF : Hid (mgoX nn hit mac L (j + 1) r m = (r, m)) := Lib.hid (by unfold mgoX; rw [if_pos (of_decide_eq_true hfull)])
        clear hfull
        go_wp2
        go_ret2
        exact HEND.out HF.out _ HRES.out HB.out
      | false =>
        have HNF : Hid (¬ (0 < nn ∧ nn = r.K)) := Lib.hid (of_decide_eq_false hfull)
        clear hfull HEND
        obtain ⟨b, hA, hbl, d0, d1, d2⟩ := HR.out j a ha
        subst hA
        cases hpat : a.pat with
        | none =>
          have hpv : a.pv = .nilIface := by unfold MA.pv; rw [hpat]
          rw [hpv] at d1
          have HG2 : Hid (mgoX nn hit mac L j r m = FIN) := Lib.hid (by
            rw [← HGO.out]
            conv => rhs; unfold mgoX
            rw [if_neg HNF.out, ha]
            dsimp only
            rw [hpat]; rfl)
          have d1 := (HB.out.cell (p := ⟨b, j * 3 + 1, none⟩) (by have := HRBE.out; have := hbl; omega)).trans d1
          have c0 := C0.out wr HB.out
          clear ha hpv hpat d0 d2
          go_wp2
          go_roundw
          case rel => exact ⟨j, N, r, m, by omega, rfl, rfl, Nat.le_trans hNb (Nat.mul_le_mul_right _ (by omega)), HRES.out, HG2.out, HB.out⟩
          case measure => simp [intOf]
        | some pp =>
        obtain ⟨pb, hpv, hcall⟩ := HHIT.out j a ha (by rw [hpat]; exact fun e => by cases e)
        obtain ⟨han, hatts, hsizes⟩ := HATT.out j a ha
        have HCALL := Lib.hid hcall; have HATTS := Lib.hid hatts; have HSIZES := Lib.hid hsizes; have HA := Lib.hid ha
        rw [hpv] at d1
        have hbb : ∀ W, Below rb w W → W.cell? ⟨b, j * 3 + 1, none⟩ = some (.iface 152 (.pointer (some ⟨pb, 0, none⟩))) ∧ W.cell? ⟨b, j * 3 + 2, none⟩ = some (.slice a.A a.n a.c) := fun W h => ⟨(h.cell (p := ⟨b, _, none⟩) (by omega)).trans d1, (h.cell (p := ⟨b, _, none⟩) (by omega)).trans d2⟩
        have HBB := Lib.hid hbb
        clear hcall hatts hsizes ha hpv d0 d1 d2 hbb
        have c0 := C0.out wr HB.out
        obtain ⟨d1, _⟩ := HBB.out wr HB.out
        go_wp2_with fail
        with_reducible refine (HCALL.out _ HB.out).mono ?_
        rintro e w2 ⟨rfl, hb2⟩
        have HB2 : Hid (Below rb w w2) := Lib.hid (HB.out.trans (hb2.mono (by have := HB.out.size; rw [HRBE.out] at this; exact this)))
        have HRES2 : Hid (ResAt w2 rb N r) := Lib.hid (HRES.out.kept (hb2.block rb (MapIs.lt HRES.out)))
        clear hb2 c0 d1 HRES HB
        cases hh : hit j with
        | false =>
          have HG2 : Hid (mgoX nn hit mac L j r m = FIN) := Lib.hid (by
            rw [← HGO.out]
            conv => rhs; unfold mgoX
            rw [if_neg HNF.out, HA.out]
            dsimp only
            rw [hpat, if_neg (by simp), if_neg (by rw [hh]; decide)])
          clear hh
          go_wp2
          go_roundw
          case rel => exact ⟨j, N, r, m, by omega, rfl, rfl, Nat.le_trans hNb (Nat.mul_le_mul_right _ (by omega)), HRES2.out, HG2.out, HB2.out⟩
          case measure => simp [intOf]
        | true =>
          have HG2 : Hid (mgoX nn hit mac L j (putsX mac r a.n a.att) true = FIN) := Lib.hid (by
            rw [← HGO.out]
            conv => rhs; unfold mgoX
            rw [if_neg HNF.out, HA.out]
            dsimp only
            rw [hpat, if_neg (by simp), if_pos hh])
          clear hh
          have c0 := C0.out w2 HB2.out
          obtain ⟨_, d2⟩ := HBB.out w2 HB2.out
          go_upto_region 13 with (fail)
          clear c0 d2
          go_loopw [61] (fun iv2 wr2 => ∃ q N2 : Nat, q ≤ a.n ∧ iv2 = .int .i64 (q : Nat) ∧ N2 ≤ N + q * 1001 ∧ ResAt wr2 rb N2 (putsX mac r q a.att) ∧ Below rb w wr2) (fun iv2 _ => a.n - (intOf iv2).toNat)
          case atStart => exact ⟨0, N, Nat.zero_le _, rfl, by omega, HRES2.out, HB2.out⟩
          case round =>
            clear HRES2 HB2
            obtain ⟨q, N2, hq, rfl, hN2, hres, hbel⟩ := hrel
            have hN2b : N2 ≤ 100000000000 := by have h1 : q * 1001 ≤ 1000 * 1001 := Nat.mul_le_mul (by omega) (Nat.le_refl _); have h2 : (n - (j + 1)) * 2000000 ≤ 1000 * 2000000 := Nat.mul_le_mul (by omega) (Nat.le_refl _); omega
            have HRES := Lib.hid hres; have HB := Lib.hid hbel
            clear hres hbel
            by_cases hlt : q < a.n
            · obtain ⟨b2, o2, hA2, hb2l, hcA⟩ := HATTS.out q hlt
              have hcB := (HB.out.cell (p := ⟨b2, o2 + q, none⟩) (show b2 < rb from by have := HRBE.out; omega)).trans hcA
              have HSZ := Lib.hid (HSIZES.out q hlt)
              obtain ⟨⟨s1, x1, v1⟩, haq⟩ : ∃ y, a.att q = y := ⟨_, rfl⟩
              rw [haq] at HSZ
              have HSZ : Hid (s1.size ≤ maxLen) := HSZ
              have HAQ := Lib.hid haq
              have hc2 : wr.cell? ⟨b2, o2 + q, none⟩ = some (.iface 127 (.agg #[.string s1, .int .u8 (x1 : Nat), .string v1])) := hcB.trans (by show some (attrV (a.att q)) = _; rw [haq]; rfl)
              clear haq hcA hcB
              generalize a.A = aA at *
              subst hA2
              go_wp2_with fail
              with_reducible refine (m_isSet s1 x1 v1 _).mono ?_
              rintro e w3 ⟨rfl, hb3⟩
              have HB3 : Hid (Below rb w w3) := Lib.hid (HB.out.trans (hb3.mono (by have := HB.out.size; rw [HRBE.out] at this; exact this)))
              have HR3 : Hid (ResAt w3 rb N2 (putsX mac r q a.att)) := Lib.hid (HRES.out.kept (hb3.block rb (MapIs.lt HRES.out)))
              clear hb3 hc2
              by_cases hx : x1 = 1
              · have q1 : ((x1 : Int) == 1) = true := beq_iff_eq.mpr (by omega)
                rw [q1]
                have HX1 := Lib.hid hx
                clear hx
                go_wp2_with fail
                with_reducible refine (m_name s1 x1 v1 _).mono ?_
                rintro e w4 ⟨rfl, hb4⟩
                have HB4 : Hid (Below rb w w4) := Lib.hid (HB3.out.trans (hb4.mono (by have := HB3.out.size; rw [HRBE.out] at this; exact this)))
                have HR4 : Hid (ResAt w4 rb N2 (putsX mac r q a.att)) := Lib.hid (HR3.out.kept (hb4.block rb (MapIs.lt HR3.out)))
                have HM4 : Hid (w4.cell? ⟨mb, 1, none⟩ = some (.map (some macb)) ∧ MapIs w4 macb N0 (fun s => (mac s).map maV) K0) := Lib.hid ⟨by rw [Lib.cell_of_heap ((HB4.out.block mb HMB.out).trans HM.out)]; rfl, HMAC.out.kept (HB4.out.block macb (by have := HMAC.out.lt; have := HRBE.out; omega))⟩
                clear hb4
                go_wp2_with fail
                with_reducible refine (expand_any mb macb N0 K0 rb N2 mac s1 _ w _ HSZ.out HRBE.out HB4.out HM4.out.1 HM4.out.2 (fun mm h => HMOK.out s1 mm h) HR4.out hN2b).mono ?_
                rintro e w5 ⟨rfl, ⟨N3, hN3, hr5⟩, hb5⟩
                have HB5a : Hid (Below rb w w5) := Lib.hid (HB4.out.trans hb5)
                have HR5a : Hid (ResAt w5 rb N3 (expR mac (putsX mac r q a.att) s1)) := Lib.hid hr5
                have HPX : Hid (putsX mac r (q + 1) a.att = (expR mac (putsX mac r q a.att) s1).put (s1, x1, v1)) := Lib.hid (by rw [putsX_succ, HAQ.out]; unfold putX; dsimp only; rw [if_pos HX1.out])
                clear hb5 hr5
                go_wp2_with fail
                with_reducible refine (m_name s1 x1 v1 _).mono ?_
                rintro e w5b ⟨rfl, hb5⟩
                have HB5 : Hid (Below rb w w5b) := Lib.hid (HB5a.out.trans (hb5.mono (by have := HB5a.out.size; rw [HRBE.out] at this; exact this)))
                have HR5 : Hid (ResAt w5b rb N3 (expR mac (putsX mac r q a.att) s1)) := Lib.hid (HR5a.out.kept (hb5.block rb (MapIs.lt HR5a.out)))
                clear hb5
                have hsz := HSZ.out
                obtain ⟨D, ho, hd⟩ := HR5.out
                go_wp2_with (at_mapUpdate; refine wpList_mapUpdate_own _ rfl _ _ _ 100 rfl 9 92 strKeyed attMap RV rb N3 D rfl ho (by unfold maxLen; omega) _ _ (kl s1) rfl rfl (key_of s1 hsz) (.held (attrV (s1, x1, v1))) [] rfl ?_)
                intro w6 ho6 hg6
                have HR6 : Hid (ResAt w6 rb (N3 + 1) (putsX mac r (q + 1) a.att)) := Lib.hid (by
                  have h := MapIs.put ho hd ho6
                  rw [HPX.out]
                  unfold ResAt
                  rw [RM.val_put, put_K]
                  exact h)
                have HB6 : Hid (Below rb w w6) := Lib.hid (HB5.out.grown hg6 (by have := HB5.out.size; rw [HRBE.out] at this; exact this) (fun k e => by injection e with e; omega))
                clear ho hd ho6 hg6 HR5 HB5
                go_wp2
                go_roundw
                case rel => exact ⟨q + 1, N3 + 1, by omega, by go_num, by omega, HR6.out, HB6.out⟩
                case measure => simp [intOf]; omega
              · have q1 : ((x1 : Int) == 1) = false := beq_eq_false_iff_ne.mpr (by omega)
                rw [q1]
                have HPX : Hid (putsX mac r (q + 1) a.att = (putsX mac r q a.att).put (s1, x1, v1)) := Lib.hid (by rw [putsX_succ, HAQ.out]; unfold putX; dsimp only; rw [if_neg hx])
                clear hx
                go_wp2_with fail
                with_reducible refine (m_name s1 x1 v1 _).mono ?_
                rintro e w5b ⟨rfl, hb5⟩
                have HB5 : Hid (Below rb w w5b) := Lib.hid (HB3.out.trans (hb5.mono (by have := HB3.out.size; rw [HRBE.out] at this; exact this)))
                have HR5 : Hid (ResAt w5b rb N2 (putsX mac r q a.att)) := Lib.hid (HR3.out.kept (hb5.block rb (MapIs.lt HR3.out)))
                clear hb5
                have hsz := HSZ.out
                obtain ⟨D, ho, hd⟩ := HR5.out
                go_wp2_with (at_mapUpdate; refine wpList_mapUpdate_own _ rfl _ _ _ 100 rfl 9 92 strKeyed attMap RV rb N2 D rfl ho (by unfold maxLen; omega) _ _ (kl s1) rfl rfl (key_of s1 hsz) (.held (attrV (s1, x1, v1))) [] rfl ?_)
                intro w6 ho6 hg6
                have HR6 : Hid (ResAt w6 rb (N2 + 1) (putsX mac r (q + 1) a.att)) := Lib.hid (by
                  have h := MapIs.put ho hd ho6
                  rw [HPX.out]
                  unfold ResAt
                  rw [RM.val_put, put_K]
                  exact h)
                have HB6 : Hid (Below rb w w6) := Lib.hid (HB5.out.grown hg6 (by have := HB5.out.size; rw [HRBE.out] at this; exact this) (fun k e => by injection e with e; omega))
                clear ho hd ho6 hg6 HR5 HB5
                go_wp2
                go_roundw
                case rel => exact ⟨q + 1, N2 + 1, by omega, by go_num, by omega, HR6.out, HB6.out⟩
                case measure => simp [intOf]; omega
            · obtain rfl : q = a.n := by omega
              go_wp2
              go_roundw
              case rel => exact ⟨j, N2, putsX mac r a.n a.att, true, by omega, rfl, rfl, (by have h1 : a.n * 1001 ≤ 1000 * 1001 := Nat.mul_le_mul han (Nat.le_refl _); omega), HRES.out, HG2.out, HB.out⟩
              case measure => simp [intOf]
end Go.Proofs.YteipeagdflcjjaaDoor.Am
/- impl.AttrMatch where macros stand among the lines: all attributes that are told, in order of their names. Printed by wip/gen_mag.py. -/
namespace Go.Proofs.YteipeagdflcjjaaDoor.Am
open Go.RowKit
open Go.Maps (Keyed string_keyed)
set_option linter.unusedSimpArgs false
set_option linter.unusedVariables false

structure SpecX where
  q : Nat
  nm : Nat → ByteArray
  PL : Nat → List ByteArray
  s : Nat → Nat
  cnt : Nat → Nat
  att : Nat → Nat → AttrT
  mac : Nat → Bool
def SpecX.says (S : SpecX) (dv : Value) (i : Nat) (a : MA) : Prop := a.nm = S.nm i ∧ a.n = S.cnt i ∧ a.att = S.att i ∧ (S.mac i = true → a.pat = none) ∧ (S.mac i = false → ∃ p, a.pat = some p ∧ p.2.1 = dv ∧ p.2.2.2.2.map nb = (S.PL i).map nb)
structure SpecX.Ok (S : SpecX) : Prop where
  q : S.q ≤ 1000
  cnt : ∀ i, i < S.q → S.cnt i ≤ 1000
  names : ∀ i, i < S.q → ∀ j, j < S.cnt i → (S.att i j).1.size ≤ maxLen
  nms : ∀ i, i < S.q → (S.nm i).size ≤ maxLen
  parts : ∀ i, i < S.q → S.mac i = false → Parts (S.PL i) (S.s i)
noncomputable def SpecX.hit (S : SpecX) (dn : Nat) (d : Nat → ByteArray) (pn : Nat) (f : Nat → ByteArray) (i : Nat) : Bool := hitB (S.PL i) (S.s i) dn d pn f
theorem line_of_mac {nm : ByteArray} {n : Nat} {att : Nat → AttrT} {w w' : World} {e : Ending} (h : OkMac nm n att w e w') (hn : n ≤ 1000) (h0 : nm.size ≠ 0) :
    LinePost (fun a => a.nm = nm ∧ a.n = n ∧ a.att = att ∧ a.pat = none) w e w' := by
  obtain ⟨v, rfl, hown, hb⟩ := h
  have hv : ∃ A2 c2, v = .slice A2 n c2 ∧ ∀ i, i < n → ∃ b off, A2 = some ⟨b, off, none⟩ ∧ w.heap.size ≤ b ∧ b < w'.heap.size ∧ w'.cell? ⟨b, off + i, none⟩ = some (attrV (att i)) := by
    rcases hown.2 with ⟨rfl, h0⟩ | ⟨g, cap, cur, rfl, hbg, hg, hn, hm, _⟩
    · exact ⟨none, 0, by rw [h0], fun i hi => by omega⟩
    · refine ⟨_, cap, rfl, fun i hi => ⟨g, 0, rfl, hbg, (Array.getElem?_eq_some_iff.1 hg).1, ?_⟩⟩
      have hc := hown.cells (g := g) rfl i (attrV (att i)) (by unfold attsV; rw [List.getElem?_map, List.getElem?_range hi]; rfl)
      have hadd : (⟨g, 0, none⟩ : Addr).add i = ⟨g, 0 + i, none⟩ := by unfold Addr.add; split <;> simp_all
      rwa [hadd] at hc
  obtain ⟨A2, c2, rfl, hat⟩ := hv
  refine ⟨⟨nm, none, A2, c2, n, att⟩, rfl, ⟨rfl, rfl, rfl, rfl⟩, h0, fun g hg => ⟨fun p hp => (by cases hp), fun i hi => ?_, hn⟩, hb⟩
  obtain ⟨b, off, e1, e2, e3, e4⟩ := hat i hi
  exact ⟨b, off, e1, e3, fun e => by have := hg _ e; omega, e4⟩
theorem hitsX_ok {S : SpecX} {L : List MA} {A' pA : Option Addr} {dn c' pn pc : Nat} {d f : Nat → ByteArray} {w : World} (hS : S.Ok) (hlen : L.length = S.q) (hsay : ∀ i a, L[i]? = some a → S.says (.slice A' dn c') i a) (hel : ∀ a ∈ L, ∃ bad, ElemAt w bad a)
    (hd : Strs w A' dn d) (hdn : dn ≤ 100) (hp : Strs w pA pn f) (hpn : 1 ≤ pn ∧ pn ≤ 100) (hpc : pn ≤ pc ∧ pc ≤ maxLen) (hnm : ∀ i, i < pn → Nm (f i)) (k : Nat) (a : MA) (ha : L[k]? = some a) (hpn0 : a.pat ≠ none) :
    ∃ pb, a.pv = .iface 152 (.pointer (some ⟨pb, 0, none⟩)) ∧ ∀ W, Below w.heap.size w W → Calls Tryd.prog 135 #[.pointer (some ⟨pb, 0, none⟩), .slice pA pn pc] W (HitPost (S.hit dn d pn f k) W) := by
  obtain ⟨_, _, _, hm1, hm2⟩ := hsay k a ha
  have hmac : S.mac k = false := by
    cases hq : S.mac k with
    | false => rfl
    | true => exact absurd (hm1 hq) hpn0
  obtain ⟨p, hap, hdv, hpl⟩ := hm2 hmac
  obtain ⟨bad, he⟩ := hel a (List.mem_of_getElem? ha)
  obtain ⟨h1, _, h3, h4, h5⟩ := he.pat p hap
  have hpl2 := map_nb_inj hpl
  have hk : k < S.q := by rw [← hlen]; exact (List.getElem?_eq_some_iff.1 ha).1
  refine ⟨p.1, by unfold MA.pv; rw [hap], fun W hb => ?_⟩
  rw [hpl2] at h3 h4 h5
  rw [hdv] at h3
  exact patMatch_any p.1 (S.PL k) (S.s k) dn c' pn pc p.2.2.2.1 A' pA p.2.2.1 d f W ((hb.block p.1 h1).trans h3) h4 (h5.rd.below hb) (hS.parts k hk hmac) (hd.below hb) hdn (hp.below hb) hpn ⟨hpc.1, by have := hpc.2; unfold maxLen at this; omega⟩ hnm
theorem attsX_ok {S : SpecX} {L : List MA} {dv : Value} {w : World} (hS : S.Ok) (hlen : L.length = S.q) (hsay : ∀ i a, L[i]? = some a → S.says dv i a) (hel : ∀ a ∈ L, ∃ bad, ElemAt w bad a) (k : Nat) (a : MA) (ha : L[k]? = some a) :
    a.n ≤ 1000 ∧ Rd w a.A a.n (fun i => attrV (a.att i)) ∧ ∀ i, i < a.n → (a.att i).1.size ≤ maxLen := by
  obtain ⟨_, h2, h3, _⟩ := hsay k a ha
  obtain ⟨bad, he⟩ := hel a (List.mem_of_getElem? ha)
  have hk : k < S.q := by rw [← hlen]; exact (List.getElem?_eq_some_iff.1 ha).1
  exact ⟨he.few, he.atts.rd, fun i hi => by rw [h3]; exact hS.names k hk i (by rw [← h2]; exact hi)⟩

set_option maxRecDepth 100000 in
set_option maxHeartbeats 8000000 in
theorem attrMatchX_any (text : ByteArray) (S : SpecX) (R : RM × Bool) (at_ m : Nat → Nat) (dA pA nA : Option Addr) (dn dc pn pc nn nc : Nat) (d f nf : Nat → ByteArray) (allow : Bool) (ea : Addr) (msg : ByteArray) (w : World)
    (ht : 1 ≤ text.size ∧ text.size ≤ 2000) (hS : S.Ok) (hl : LinesAt (fun i => bx text i) text.size S.q at_ m)
    (hp : ∀ i, i < S.q → ∀ A c W, Calls Tryd.prog 40 #[.string (lineT (fun i => bx text i) (at_ i) (m i)), .slice A dn c, .bool allow] W (LinePost (S.says (.slice A dn c) i) W))
    (hE : ErrAt w 6 ea msg) (hd : Strs w dA dn d) (hdn : dn ≤ 100) (hpt : Strs w pA pn f) (hpn : 1 ≤ pn ∧ pn ≤ 100) (hnm : ∀ i, i < pn → Nm (f i)) (hn : Strs w nA nn nf) (hnn : nn ≤ 1000)
    (hR : ∀ dv (L : List MA), L.length = S.q → (∀ i a, L[i]? = some a → S.says dv i a) → mgoX nn (S.hit dn d pn f) (macOf L L.length) L L.length RM.empty false = R)
    (hgood : ∀ s a, R.1.M s = some a → nb a.1 = nb s) (hone : R.1.K ≤ 100) :
    Calls Tryd.prog 29 #[.string text, .slice dA dn dc, .bool allow, .slice pA pn pc, .slice nA nn nc] w (AmPostS R.1 R.2 w) := by
  obtain ⟨ht1, ht2⟩ := ht
  have HS := Lib.hid hS; have HL := Lib.hid hl; have HP := Lib.hid hp; have HE := Lib.hid hE; have HD := Lib.hid hd; have HPT := Lib.hid hpt; have HNM := Lib.hid hnm; have HN := Lib.hid hn; have HONE := Lib.hid hone; have HRX := Lib.hid hR
  obtain ⟨hpn1, hpn2⟩ := hpn
  clear hS hl hp hE hd hpt hnm hn hone hR
  obtain ⟨v1, w1, hcv, c1, rfl, hc1, hc1m, hcells, hb1, hs1⟩ := run_bytes w text (by omega)
  have HCE := Lib.hid hcells; have HB1 := Lib.hid hb1; have HS1 := Lib.hid hs1
  clear hcells hb1 hs1
  go_enter Tryd.func29, Tryd.ntmps29
  go_wp2_with fail
  with_reducible refine (newReader_any w.heap.size text.size c1 _).mono ?_
  rintro e w2 ⟨rfl, hr2, hb2, hs2⟩
  have HR2 := Lib.hid hr2; have HB2 := Lib.hid hb2; have HS2 := Lib.hid hs2
  have HSW : Hid (w1.heap.size = w.heap.size + 1 ∧ w2.heap.size = w.heap.size + 2) := Lib.hid ⟨HS1.out, by rw [hs2, HS1.out]⟩
  have HB02 : Hid (Below w.heap.size w w2) := Lib.hid (HB1.out.trans (hb2.mono (by rw [HS1.out]; omega)))
  have HD2 : Hid (Strs w2 dA dn d) := Lib.hid (HD.out.below HB02.out)
  clear hr2 hb2 hs2 hcv
  go_wp2_with (at_builtin; refine wpList_copy _ rfl (.tmp 26) rfl dA dn dc d rfl (by omega) HD2.out ?_; intro A3 c3 w3 hs3 hc3 hm3 hb3 hg3; have HS3 := Lib.hid hs3; have HB3 := Lib.hid hb3; have HG3 := Lib.hid hg3; have HC3 := Lib.hid (And.intro hc3 hm3); clear hs3 hc3 hm3 hb3 hg3)
  have hmx : c1 ≤ 9223372036854775807 := by unfold maxLen at hc1m; omega
  have HSZ3 : Hid (w1.heap.size < w3.heap.size ∧ w.heap.size < w3.heap.size) := Lib.hid (by have := HSW.out; have := HB3.out.size; omega)
  have HB03 : Hid (Below w.heap.size w w3) := Lib.hid (HB02.out.trans (HB3.out.mono (by have := HSW.out; omega)))
  have HB13 : Hid (Below w1.heap.size w1 w3) := Lib.hid (HB2.out.trans (HB3.out.mono (by have := HSW.out; omega)))
  have HR3 : Hid (RdrAt w3 w1.heap.size w.heap.size text.size c1 0 (-1)) := Lib.hid ((HB3.out.block _ (by have := HSW.out; omega)).trans HR2.out)
  have HC3b : Hid (∀ i, i < text.size → w3.cell? ⟨w.heap.size, i, none⟩ = some (.int .u8 (bx text i : Nat))) := Lib.hid fun i hi => (HB13.out.cell (p := ⟨w.heap.size, i, none⟩) (show w.heap.size < w1.heap.size by have := HSW.out; omega)).trans (HCE.out i hi)
  have HE3 : Hid (ErrAt w3 6 ea msg) := Lib.hid (errAt_heap HE.out (fun k hk => HB03.out.block k (by rcases hk with rfl | rfl; exact HE.out.lt.1; exact HE.out.lt.2)) HB03.out.size)
  have HEB : Hid (6 < w1.heap.size ∧ ea.block < w1.heap.size) := Lib.hid (by have := HE.out.lt; have := HSW.out; omega)
  have HNE : Hid (w.heap.size ≠ w1.heap.size) := Lib.hid (by have := HSW.out; omega)
  clear HR2 HCE HB1 HS1 HB2 HS2
  with_reducible refine (readAttributes_any w1.heap.size w1.heap.size w.heap.size text.size c1 S.q (fun i => bx text i) at_ m (fun i => S.says (.slice A3 dn c3) i) A3 dn c3 allow ea msg w3 ⟨ht1, ht2, hc1, hmx⟩ HS.out.q (Nat.le_refl _) HNE.out HSZ3.out HR3.out HC3b.out HL.out HE3.out HEB.out (fun i hi W => HP.out i hi A3 c3 W)).mono ?_
  rintro e w4 ⟨sv, L, rfl, hlen, hsay, ⟨B2, hB2, hst⟩, hb4, hkp⟩
  have HB04 : Hid (Below w.heap.size w w4) := Lib.hid (HB03.out.trans (hb4.mono (by have := HSW.out; omega)))
  have HD4 : Hid (Strs w4 A3 dn d) := Lib.hid fun i hi => by
    obtain ⟨b, off, e1, e2, e3⟩ := HS3.out i hi
    have := HG3.out _ e1
    exact ⟨b, off, e1, Nat.lt_of_lt_of_le e2 hb4.size, (World.cell?_of_block (a := ⟨b, off + i, none⟩) (hkp b e2 (by have := HSW.out; dsimp only at *; omega))).trans e3⟩
  have HPT4 : Hid (Strs w4 pA pn f) := Lib.hid (HPT.out.below HB04.out)
  have HN4 : Hid (Strs w4 nA nn nf) := Lib.hid (HN.out.below HB04.out)
  have HLEN := Lib.hid hlen; have HSAY := Lib.hid hsay
  have HROWS : Hid (RowsAt w4 sv L) := Lib.hid hst.rows
  have HEL : Hid (∀ a ∈ L, ∃ bad, ElemAt w4 bad a) := Lib.hid fun a ha => ⟨_, hst.2 a ha⟩
  have HOB : Hid (∀ b, sv.ownBlock = some b → b < w4.heap.size) := Lib.hid fun b e => (hst.1.lt b e).2
  have HPNN : Hid (∀ a ∈ L, a.nm.size ≤ maxLen) := Lib.hid fun a ha => by
    obtain ⟨i, hi⟩ := List.getElem?_of_mem ha
    obtain ⟨h1, _⟩ := hsay i a hi
    rw [h1]
    exact HS.out.nms i (by rw [← hlen]; exact (List.getElem?_eq_some_iff.1 hi).1)
  have hL : L.length ≤ 1000 := by rw [hlen]; exact HS.out.q
  clear hlen hsay hst hB2 hb4 hkp HD HPT HN HB02 HB03 HB13 HR3 HC3b HE3 HEB HNE HSZ3 HS3 HB3 HG3 HD2
  have hna : ∀ (b : Nat) (w : World), (nilAhead 321 136 (.pointer (some ⟨b, 0, none⟩)) "Match").run Tryd.prog w = .ok (some false) w := fun _ _ => by kernel_rfl
  have hme : ∀ (b : Nat) (w : World), (method 321 136 (.pointer (some ⟨b, 0, none⟩)) "Match").run Tryd.prog w = .ok (126, .pointer (some ⟨b, 0, none⟩)) w := fun _ _ => by kernel_rfl
  have HMG : Hid (mgoX nn (S.hit dn d pn f) (macOf L L.length) L L.length RM.empty false = R) := Lib.hid (HRX.out _ L HLEN.out HSAY.out)
  have HGOOD : Hid (∀ s a, R.1.M s = some a → nb a.1 = nb s) := Lib.hid hgood
  have HONE2 : Hid (R.1.K ≤ 100) := HONE
  have HRR : Hid (R = R) := Lib.hid rfl
  clear HONE hgood
  go_upto_region 4 with (fail)
  go_cut [15, 16] (fun mv bv wx => ∃ N rb : Nat, mv = .map (some rb) ∧ bv = .bool R.2 ∧ ResAt wx rb N R.1 ∧ Below w.heap.size w wx)
  case first =>
   go_region_law (first | (go_simp; go_at_call 44; refine (newMatcherM_any sv L _ hL HPNN.out (by exact HROWS.out) (by exact HOB.out)).mono ?_; rintro e w5 ⟨macb, N0, K0, rfl, hm5, hmap5, hb5⟩; have HM5 := Lib.hid hm5; have HMA5 := Lib.hid hmap5; have HB5 : Hid (Below w4.heap.size w4 w5) := Lib.hid (by first | exact hb5 | exact (Below.refl _ _).drew.trans hb5); clear hm5 hmap5 hb5) | (refine step_copy _ rfl (.tmp 39) rfl pA pn pc f rfl (by omega) (HPT4.out.below HB5.out) ?_; intro A6 c6 w6 hs6 hc6 hm6 hb6 hg6; have HS6 := Lib.hid hs6; have HC6 := Lib.hid (And.intro hc6 hm6); have HB6 := Lib.hid hb6; clear hs6 hc6 hm6 hb6 hg6) | (refine step_copy _ rfl (.tmp 41) rfl nA nn nc nf rfl hnn (HN4.out.below (HB5.out.trans (HB6.out.mono HB5.out.size))) ?_; intro A7 c7 w7 hs7 hc7 hm7 hb7 hg7; have HB7 := Lib.hid hb7; clear hs7 hc7 hm7 hb7 hg7; have HB57 : Hid (Below w5.heap.size w5 w7) := Lib.hid (HB6.out.trans (HB7.out.mono HB6.out.size)); have HB47 : Hid (Below w4.heap.size w4 w7) := Lib.hid (HB5.out.trans (HB57.out.mono HB5.out.size)); have HM7 : Hid (MatAt w7 w4.heap.size macb sv) := Lib.hid ((HB57.out.block _ (Array.getElem?_eq_some_iff.1 HM5.out).1).trans HM5.out); have HMA7 : Hid (MapIs w7 macb N0 (macs L L.length) K0) := Lib.hid (HMA5.out.kept (HB57.out.block _ HMA5.out.lt)); have HEL7 : Hid (∀ a ∈ L, ∃ bad, ElemAt w7 bad a) := Lib.hid (fun a ha => (HEL.out a ha).imp fun bad he => he.below HB47.out); have HS7 : Hid (Strs w7 A6 pn f) := Lib.hid (HS6.out.below HB7.out); have HD7 : Hid (Strs w7 A3 dn d) := Lib.hid (HD4.out.below HB47.out)) | (go_simp; go_at_call 126; refine (mMatchX_any w4.heap.size macb N0 K0 (macOf L L.length) sv L A6 A7 pn c6 nn c7 (S.hit dn d pn f) w7 hL HM7.out HMA7.out (fun s m hm => by obtain ⟨hmm, _⟩ := macOf_mem _ hm; obtain ⟨i, hi⟩ := List.getElem?_of_mem hmm; exact attsX_ok HS.out HLEN.out HSAY.out HEL7.out i m hi) (HROWS.out.below HB47.out) (attsX_ok HS.out HLEN.out HSAY.out HEL7.out) hnn (hitsX_ok HS.out HLEN.out HSAY.out HEL7.out HD7.out hdn HS7.out ⟨hpn1, hpn2⟩ HC6.out HNM.out)).mono ?_; rintro e w8 ⟨N, rfl, hres, hb8⟩; have HRES := Lib.hid hres; have HB8 := Lib.hid hb8; clear hres hb8))
   all_goals
    go_wp2
    go_meet
    case rel => exact ⟨N, w7.heap.size, rfl, by rw [HMG.out], by rw [← HMG.out]; exact HRES.out, HB04.out.trans ((HB47.out.mono HB04.out.size).trans (HB8.out.mono (Nat.le_trans HB04.out.size HB47.out.size)))⟩
  case rest =>
    clear HPT4 HN4 HROWS HEL HOB HPNN HD4 HB04 HSAY HLEN HMG
    obtain ⟨N, rb, rfl, rfl, hres, hbw⟩ := hcut
    have HRES := Lib.hid hres; have HBW := Lib.hid hbw
    clear hres hbw
    obtain ⟨D, ho, hd⟩ := HRES.out
    obtain ⟨i0, hi, hz0, hz1, hz2⟩ := info_parts outInfo
    go_wp2_with (at_range; refine wpList_range_own _ rfl _ _ rfl 9 92 strKeyed attMap RV rb N D rfl ho ?_; intro w9 hrg hg9 hs9)
    have HRG := Lib.hid hrg; have HMD := Lib.hid hd
    have HBW9 : Hid (Below w.heap.size w w9) := Lib.hid (HBW.out.grown hg9 HBW.out.size (fun q e => by cases e))
    have HITW : Hid (w.heap.size ≤ wc.heap.size) := Lib.hid HBW.out.size
    generalize wc.heap.size = it at *
    have HIT : Hid (it < w9.heap.size ∧ rb < w9.heap.size) := Lib.hid ⟨hrg.lt, hrg.owns.lt⟩
    have HLE9 : Hid (w.heap.size ≤ w9.heap.size) := Lib.hid HBW9.out.size
    clear ho hd hrg hg9 hs9 HRES HBW
    go_frame
    have hinK : ∀ key klit, keyOf Tryd.prog 9 key = some klit → ∃ x, key = Value.string x := fun key klit h => by
      obtain ⟨s, e, _⟩ := WideMaps.string_of_keyOf strKind h
      exact ⟨s, e⟩
    have hinV : ∀ v y, RV v = some y → ∃ c : Value, v = (fun u => u) c := fun v _ _ => ⟨v, rfl⟩
    go_loopw [10] (fun lv wr => ∃ (left : Lit → Bool) (cnt : Nat) (l : List AttrT), wr.ranges Tryd.prog 9 RV rb it N D left cnt ∧ (∀ s, left (kl s) = true → (R.1.M s).isSome = true) ∧ (∀ a, a ∈ l ↔ (R.1.M a.1 = some a ∧ left (kl a.1) = false)) ∧ l.length + cnt ≤ R.1.K ∧ SortedBy (fun a : AttrT => a.1) l ∧ OutAt wr w9.heap.size lv l ∧ Below w.heap.size w wr ∧ w9.heap.size ≤ wr.heap.size) (fun _ wr => wr.rangeLeft rb it)
    case atStart =>
      refine ⟨_, _, [], HRG.out, fun s h => ?_, fun a => ⟨fun h => (by cases h), fun ⟨h1, h2⟩ => ?_⟩, ?_, List.Pairwise.nil, World.ownsRow_nil _ _ _ _, HBW9.out, Nat.le_refl _⟩
      · rw [HMD.out.has] at h
        unfold RM.val at h
        cases hm : R.1.M s with
        | none => rw [hm] at h; cases h
        | some a => rfl
      · rw [HMD.out.has] at h2
        unfold RM.val at h2
        rw [h1] at h2; cases h2
      · rw [HMD.out.size]; simp
    case round =>
      clear HRG HBW9
      obtain ⟨left, cnt, l, hrg, hsome, hmem, hcnt, hsrt, hout, hbel, hsz9⟩ := hrel
      have HSRT := Lib.hid hsrt; clear hsrt
      have HSOME := Lib.hid hsome; have HMEM := Lib.hid hmem; have HOUT := Lib.hid hout; have HB := Lib.hid hbel; have HSZ9 := Lib.hid hsz9; have HRG0 := Lib.hid hrg
      clear hsome hmem hout hbel hsz9
      go_wp2_with (at_next; refine wpList_next_ranges _ rfl _ rfl 9 strKeyed RV Value.string (fun v : Value => v) hinK hinV rb it N D left cnt rfl hrg ?_ ?_)
      · intro hc0 hl0
        have HTOLD : Hid (∀ a, a ∈ l ↔ R.1.M a.1 = some a) := Lib.hid (fun a => (HMEM.out a).trans ⟨fun h => h.1, fun h => ⟨h, hl0 _⟩⟩)
        clear hc0 hl0 hrg
        go_wp2
        go_ret3
        exact ⟨_, l, by rfl, by exact HTOLD.out, HSRT.out, ownsRow_mono HOUT.out HLE9.out, HB.out⟩
      · intro x c klit y1 y2 w10 cnt' hkey hleft hRV hat hrg' hlt hg hs hen
        obtain ⟨s0, hs0, hkl, hsz⟩ := WideMaps.string_of_keyOf strKind hkey
        injection hs0 with hs0
        subst hs0
        have hkl : klit = kl x := hkl
        subst hkl
        obtain ⟨a, ha⟩ := Option.isSome_iff_exists.mp (HSOME.out x hleft)
        have hax : a.1 = x := nb_inj (HGOOD.out x a ha)
        have hc : c = attrV a := by
          injection hRV with hRV
          injection hRV with hRV _
          have h1 := hat (.lit (.bool true))
          rw [HMD.out.at_ x (attrV a) (by unfold RM.val; rw [ha]; rfl), ← hRV] at h1
          injection h1 with h1
          exact h1.symm
        subst hc
        obtain ⟨a1, a2, a3⟩ := a
        have hax : a1 = x := hax
        subst hax
        have hk100 : l.length ≤ 100 := by have := HONE2.out; omega
        have HCN : Hid (l.length + 1 + cnt' ≤ R.1.K) := Lib.hid (by omega)
        have HNEW : Hid (∀ b ∈ l, b.1 ≠ a1) := Lib.hid fun b hb e => by
          have h1 := ((HMEM.out b).mp hb).2
          rw [e] at h1
          rw [hleft] at h1; cases h1
        have HLEFT := Lib.hid hleft
        clear hcnt hleft
        have HRG1 := Lib.hid hrg'
        have HB10 : Hid (Below w.heap.size w w10) := Lib.hid (HB.out.grown hg HB.out.size (fun q e => by injection e with e; have := HITW.out; omega))
        have HA := Lib.hid ha
        have hown10 : ∀ q, u10.ownBlock = some q → w9.heap.size ≤ q := fun q e => (HOUT.out.lt q e).1
        obtain ⟨k, hk⟩ : ∃ k, l.length = k := ⟨_, rfl⟩
        have HKL := Lib.hid hk
        rw [hk] at hk100
        have HO10 : Hid (OutAt w10 w9.heap.size u10 l) := Lib.hid (ownsRow_heap HOUT.out (fun q e => hg.block q (HOUT.out.lt q e).2 (fun e2 => by injection e2 with e2; have := hown10 q e; have := HIT.out; omega)))
        have HSZ10 : Hid (w9.heap.size ≤ w10.heap.size) := Lib.hid (by rw [hs]; exact HSZ9.out)
        have HOB10 := Lib.hid hown10
        have hform : ∃ A0 c0, u10 = .slice A0 k c0 := by
          rcases HO10.out.2 with ⟨h, h0⟩ | ⟨g, cap, cur, h, _⟩
          · exact ⟨none, 0, by rw [h, ← hk, h0]⟩
          · exact ⟨_, cap, by rw [h, hk]⟩
        obtain ⟨A0, c00, hu10⟩ := hform
        have HLT0 := Lib.hid hlt
        clear hrg' hg hs ha hown10 HOUT hkey hRV hat hax hrg hlt hk
        rw [show attrV (a1, a2, a3) = .iface 127 (.agg #[.string a1, .int .u8 (a2 : Nat), .string a3]) from rfl] at hen ⊢
        go_wp2_with fail
        with_reducible refine (attr_any a1 a2 a3 _).mono ?_
        rintro e w11 ⟨rfl, hb11⟩
        have HRG11 : Hid (w11.ranges Tryd.prog 9 RV rb it N D (fun z => left z && !z.sameKey (kl a1)) cnt') := Lib.hid (ranges_heap HRG1.out (hb11.block _ HRG1.out.owns.lt) (hb11.block _ HRG1.out.lt))
        have HO11 : Hid (w11.ownsRow w9.heap.size 48 3 u10 k (l.flatMap out3)) := Lib.hid (by rw [← HKL.out]; exact ownsRow_heap HO10.out (fun q e => hb11.block q (HO10.out.lt q e).2))
        have HB11 : Hid (Below w.heap.size w w11) := Lib.hid (HB10.out.trans (hb11.mono HB10.out.size))
        have HSZ11 : Hid (w9.heap.size ≤ w11.heap.size) := Lib.hid (Nat.le_trans HSZ10.out hb11.size)
        clear hb11 hen HRG1 HO10 HB10 HSZ10
        subst hu10
        go_upto_region 10 with (fail)
        go_wp2_with (at_builtin; refine wpList_append_lies _ rfl (.tmp 59) (.tmp 61) 44 rfl w9.heap.size 48 i0 (.agg #[.string ⟨#[]⟩, .string ⟨#[]⟩, .int .i64 0]) 3 40 outsKind hi hz0 hz1 hz2 rfl (by decide) _ k (l.flatMap out3) rfl (World.ownsRow.alloc (World.ownsRow.alloc HO11.out _) _) ⟨w11.heap.size + 1, 0, none⟩ 1 1 (out3 (a1, a2, a3)) rfl rfl ?c1 (one_out _) (by decide) ?c3 ?c4 ?c5 _ rfl ?_)
        case c1 =>
          intro j u hj
          have h := news_out (w11.alloc (.cells #[.string a1, .string a3, .int .i64 (stN a2 : Nat)] 48)) (a1, a2, a3) j u hj
          rw [heap_new_size] at h
          exact h
        case c3 => unfold maxLen; omega
        case c4 => omega
        case c5 => have := HSZ11.out; first | omega | (rw [heap_new_size, heap_new_size]; omega)
        intro gg cap2 w12 hown hgrow hat hlt12
        have hgB : w9.heap.size ≤ gg := by
          rcases hown.2 with ⟨h, _⟩ | ⟨g, cap, cur, h, hb, _⟩
          · cases h
          · cases h; exact hb
        obtain ⟨cur, hcur, hcap, hcs, hct⟩ : ∃ cur, w12.heap[gg]? = some (.cells cur 48 (0, 0)) ∧ (k + 1 ≤ cap2 ∧ cap2 ≤ maxLen) ∧ cur.size = cap2 * 3 ∧ cur.toList.take ((k + 1) * 3) = l.flatMap out3 ++ out3 (a1, a2, a3) := by
          rcases hown.2 with ⟨h, _⟩ | ⟨g, cap, cur, h, _, hg, p1, p2, p3, p4⟩
          · cases h
          · cases h; exact ⟨cur, hg, ⟨p1, p2⟩, p3, p4⟩
        have HSH : Hid (Shift cur l k) := Lib.hid (by
          have := shift_start (cur := cur) (l := l) (x := (a1, a2, a3)) (by rw [HKL.out, hct, List.flatMap_append]; simp)
          rwa [HKL.out] at this)
        have HCAP := Lib.hid hcap; have HCS := Lib.hid hcs
        clear hcap hcs hct
        have hold : ∀ q, q < w11.heap.size → (∀ b, A0 = some b → b.block ≠ q) → w12.heap[q]? = w11.heap[q]? := fun q h1 h2 =>
          (hgrow.block q (by rw [heap_new_size, heap_new_size]; omega) (fun e => by
            cases A0 with
            | none => cases e
            | some b => injection e with e; exact h2 b rfl e.symm)).trans ((Below.heap_alloc _ _ _ (by rw [heap_new_size]; omega)).trans (Below.heap_alloc _ _ _ h1))
        have hobk : ∀ b, A0 = some b → w9.heap.size ≤ b.block := fun b e => HOB10.out b.block (by rw [e]; rfl)
        have hrow12 : w12.heap[w11.heap.size]? = some (.cells #[.string a1, .string a3, .int .i64 (stN a2 : Nat)] 48 (0, 0)) :=
          (hgrow.block _ (by rw [heap_new_size, heap_new_size]; omega) (fun e => by
            have := (HO11.out.lt w11.heap.size e.symm).2
            omega)).trans ((Below.heap_alloc _ _ _ (by rw [heap_new_size]; omega)).trans (heap_new w11 _))
        have g0 : w12.cell? ⟨w11.heap.size, 0, none⟩ = some (.string a1) := by rw [Lib.cell_of_heap hrow12]; rfl
        have g1 : w12.cell? ⟨w11.heap.size, 1, none⟩ = some (.string a3) := by rw [Lib.cell_of_heap hrow12]; rfl
        have g2 : w12.cell? ⟨w11.heap.size, 2, none⟩ = some (.int .i64 (stN a2 : Nat)) := by rw [Lib.cell_of_heap hrow12]; rfl
        have HRG12 : Hid (w12.ranges Tryd.prog 9 RV rb it N D (fun z => left z && !z.sameKey (kl a1)) cnt') := Lib.hid (ranges_heap HRG11.out (hold rb HRG11.out.owns.lt (fun b e => by have := hobk b e; have := HIT.out; omega)) (hold it HRG11.out.lt (fun b e => by have := hobk b e; have := HIT.out; omega)))
        have HB12 : Hid (Below w.heap.size w w12) := Lib.hid (((HB11.out.alloc HB11.out.size _).alloc (by rw [heap_new_size]; have := HB11.out.size; omega) _).grown hgrow (by rw [heap_new_size, heap_new_size]; have := HB11.out.size; omega) (fun q e => by have := HOB10.out q e; have := HLE9.out; omega))
        have HCUR := Lib.hid hcur; have HGLT := Lib.hid hlt12; have HGX : Hid (gg ≠ w11.heap.size) := Lib.hid (by intro e; refine hat.elim (fun h => ?_) (fun h => ?_) <;> first | (have := (HO11.out.lt gg h).2; omega) | omega | (rw [heap_new_size] at h; omega) | (rw [heap_new_size, heap_new_size] at h; omega)); have HGIT : Hid (gg ≠ it ∧ gg ≠ rb) := Lib.hid (by have := HIT.out; omega); have HGB := Lib.hid hgB
        have HSZ12 : Hid (w9.heap.size ≤ w12.heap.size) := Lib.hid (by have h1 := hgrow.size; rw [heap_new_size, heap_new_size] at h1; have := HSZ11.out; omega)
        clear hown hgrow hat hlt12 hcur hold hobk hrow12 hgB
        generalize w11.heap.size = xb at *
        have HCE : Hid (w12.cell? ⟨xb, 0, none⟩ = some (.string a1) ∧ w12.cell? ⟨xb, 1, none⟩ = some (.string a3) ∧ w12.cell? ⟨xb, 2, none⟩ = some (.int .i64 (stN a2 : Nat))) := Lib.hid ⟨g0, g1, g2⟩
        clear g0 g1 g2
        go_wp2
        go_loopw [20] (fun iv wx => ∃ (i : Nat) (cu : Array Value), i ≤ k ∧ iv = .int .i64 (i : Nat) ∧ wx.heap[gg]? = some (.cells cu 48 (0, 0)) ∧ cu.size = cap2 * 3 ∧ Shift cu l i ∧ (∀ r, i ≤ r → r < l.length → ltS a1 (l.getD r zA).1 = true) ∧ (∀ q : Nat, q ≠ gg → wx.heap[q]? = w12.heap[q]?) ∧ Below w.heap.size w wx ∧ w9.heap.size ≤ wx.heap.size) (fun iv _ => (intOf iv).toNat)
        case atStart => exact ⟨k, cur, Nat.le_refl _, rfl, HCUR.out, HCS.out, HSH.out, fun r h1 h2 => absurd h2 (by rw [HKL.out]; omega), fun _ _ => rfl, HB12.out, HSZ12.out⟩
        case round =>
          obtain ⟨i, cu, hik, rfl, hcu, hcus, hsh, hgt, hheap, hbx, hszx⟩ := hrel
          have HSZX := Lib.hid hszx; have HCU := Lib.hid hcu; have HCUS := Lib.hid hcus; have HSHI := Lib.hid hsh; have HGT := Lib.hid hgt
          have HHEAP := Lib.hid hheap; have HBX := Lib.hid hbx
          have hcell : ∀ j, wr.cell? ⟨xb, j, none⟩ = w12.cell? ⟨xb, j, none⟩ := fun j => World.cell?_of_block (hheap xb (fun e => HGX.out e.symm))
          have g0 := (hcell 0).trans HCE.out.1
          have g1 := (hcell 1).trans HCE.out.2.1
          have g2 := (hcell 2).trans HCE.out.2.2
          have f0 : wr.frozen? ⟨gg, i * 3, none⟩ = false := Lib.frozen_of_heap hcu _
          have f1 : wr.frozen? ⟨gg, i * 3 + 1, none⟩ = false := Lib.frozen_of_heap hcu _
          have f2 : wr.frozen? ⟨gg, i * 3 + 2, none⟩ = false := Lib.frozen_of_heap hcu _
          clear hszx hcu hcus hsh hgt hheap hbx hcell
          have hge : w.heap.size ≤ gg := by have := HLE9.out; have := HGB.out; omega
          have HDONE : Hid ((i = 0 ∨ ltS (l.getD (i - 1) zA).1 a1 = true) → ∀ nq (wz : World), (∀ q, q ≠ gg → wz.heap[q]? = wr.heap[q]?) → wz.heap[gg]? = some (.cells (put3 cu i (a1, a2, a3)) 48 (0, 0)) → wz.heap.size = wr.heap.size → Below w.heap.size w wz → nq = .slice (some ⟨gg, 0, none⟩) (k + 1) cap2 →
              ∃ (left' : Lit → Bool) (cnt'' : Nat) (l' : List AttrT), wz.ranges Tryd.prog 9 RV rb it N D left' cnt'' ∧ (∀ s, left' (kl s) = true → (R.1.M s).isSome = true) ∧ (∀ a, a ∈ l' ↔ (R.1.M a.1 = some a ∧ left' (kl a.1) = false)) ∧ l'.length + cnt'' ≤ R.1.K ∧ SortedBy (fun a : AttrT => a.1) l' ∧ OutAt wz w9.heap.size nq l' ∧ Below w.heap.size w wz ∧ w9.heap.size ≤ wz.heap.size ∧ cnt'' = cnt') := Lib.hid fun hstop nq wz hz hzg hzs hzb hnq => by
            have hil : i ≤ l.length := by rw [HKL.out]; exact hik
            have hsz : (l.length + 1) * 3 ≤ cu.size := by rw [HKL.out, HCUS.out]; have := HCAP.out.1; omega
            refine ⟨_, cnt', l.take i ++ (a1, a2, a3) :: l.drop i, ranges_heap HRG12.out ((hz rb (fun e => HGIT.out.2 e.symm)).trans (HHEAP.out rb (fun e => HGIT.out.2 e.symm))) ((hz it (fun e => HGIT.out.1 e.symm)).trans (HHEAP.out it (fun e => HGIT.out.1 e.symm))), fun s h => HSOME.out s (by rw [Bool.and_eq_true] at h; exact h.1), fun b => ?_, ?_, sorted_ins HSRT.out hil (drop_gt zA HGT.out) (take_lt zA HSRT.out hil hstop), ⟨?_, .inr ⟨gg, cap2, _, ?_, HGB.out, hzg, ?_, HCAP.out.2, ?_, ?_⟩⟩, hzb, by rw [hzs]; exact HSZX.out, rfl⟩
            · rw [mem_ins]
              constructor
              · rintro (rfl | hb)
                · refine ⟨HA.out, ?_⟩
                  show (left (kl a1) && !(kl a1).sameKey (kl a1)) = false
                  rw [WideAt.sameKey_self (isKey a1)]; simp
                · obtain ⟨p1, p2⟩ := (HMEM.out b).mp hb
                  exact ⟨p1, by rw [p2]; rfl⟩
              · rintro ⟨hb1, hb2⟩
                have hb2 : (left (kl b.1) && !(kl b.1).sameKey (kl a1)) = false := hb2
                rw [Bool.and_eq_false_iff] at hb2
                rcases hb2 with hb2 | hb2
                · exact .inr ((HMEM.out b).mpr ⟨hb1, hb2⟩)
                · left
                  have hsk : (kl b.1).sameKey (kl a1) = true := by simpa using hb2
                  have := kl_inj ((WideAt.sameKey_iff (isKey a1)).mp hsk)
                  have hAA := HA.out
                  rw [this, hAA] at hb1
                  injection hb1 with hb1
                  exact hb1.symm
            · rw [len_ins hil]; exact HCN.out
            · rw [flat_len]
            · rw [hnq, len_ins hil, HKL.out]
            · rw [len_ins hil, HKL.out]; exact HCAP.out.1
            · rw [put3_size]; exact HCUS.out
            · rw [len_ins hil]; exact shift_done _ HSHI.out hil hsz
          have HPUT : Hid (∀ nq a, (((((wr.drewN nq).setCell ⟨gg, i * 3, none⟩ (.string a.1)).setCell ⟨gg, i * 3 + 1, none⟩ (.string a.2.2)).setCell ⟨gg, i * 3 + 2, none⟩ (.int .i64 (stN a.2.1 : Nat))).heap[gg]? = some (.cells (put3 cu i a) 48 (0, 0)) ∧
              (∀ q, q ≠ gg → ((((wr.drewN nq).setCell ⟨gg, i * 3, none⟩ (.string a.1)).setCell ⟨gg, i * 3 + 1, none⟩ (.string a.2.2)).setCell ⟨gg, i * 3 + 2, none⟩ (.int .i64 (stN a.2.1 : Nat))).heap[q]? = wr.heap[q]?) ∧
              ((((wr.drewN nq).setCell ⟨gg, i * 3, none⟩ (.string a.1)).setCell ⟨gg, i * 3 + 1, none⟩ (.string a.2.2)).setCell ⟨gg, i * 3 + 2, none⟩ (.int .i64 (stN a.2.1 : Nat))).heap.size = wr.heap.size ∧
              Below w.heap.size w ((((wr.drewN nq).setCell ⟨gg, i * 3, none⟩ (.string a.1)).setCell ⟨gg, i * 3 + 1, none⟩ (.string a.2.2)).setCell ⟨gg, i * 3 + 2, none⟩ (.int .i64 (stN a.2.1 : Nat))))) := Lib.hid fun nq (a : AttrT) => by
            have h1 : (wr.drewN nq).heap[gg]? = some (.cells cu 48 (0, 0)) := HCU.out
            have h2 := Lib.heap_setCell_same (i := i * 3) h1 (.string a.1)
            have h3 := Lib.heap_setCell_same (i := i * 3 + 1) h2 (.string a.2.2)
            have h4 := Lib.heap_setCell_same (i := i * 3 + 2) h3 (.int .i64 (stN a.2.1 : Nat))
            refine ⟨h4, fun q hq => ?_, ?_, (((below_drewN HBX.out nq).setCell (p := ⟨gg, i * 3, none⟩) hge _).setCell (p := ⟨gg, i * 3 + 1, none⟩) hge _).setCell (p := ⟨gg, i * 3 + 2, none⟩) hge _⟩
            · exact (Below.heap_setCell _ _ _ _ hq).trans ((Below.heap_setCell _ _ _ _ hq).trans (Below.heap_setCell _ _ _ _ hq))
            · rw [size_setCell, size_setCell, size_setCell]; rfl
          have z1 : (0 : Int) ≤ (i : Int) := by omega
          have z2 : (i : Int) < (k : Int) + 1 := by omega
          have hold : ∀ t, t < 3 → ∃ v, wr.cell? ⟨gg, i * 3 + t, none⟩ = some v := fun t ht => by
            have hlt : i * 3 + t < cu.size := by rw [HCUS.out]; have := HCAP.out.1; omega
            exact ⟨cu[i * 3 + t], by rw [Lib.cell_of_heap HCU.out]; exact Array.getElem?_eq_getElem hlt⟩
          obtain ⟨v0, e0⟩ := hold 0 (by decide)
          obtain ⟨v1, e1⟩ := hold 1 (by decide)
          obtain ⟨v2, e2⟩ := hold 2 (by decide)
          rw [Nat.add_zero] at e0
          clear hold
          by_cases hi0 : i = 0
          · have hI : ¬ (0 : Int) < (i : Int) := by omega
            have hIn : ¬ 0 < i := by omega
            have HST : Hid (i = 0 ∨ ltS (l.getD (i - 1) zA).1 a1 = true) := Lib.hid (.inl hi0)
            clear hi0
            go_wp2
            go_quiet (fail)
            go_wp2
            obtain ⟨p1, p2, p3, p4⟩ := HPUT.out nq (a1, a2, a3)
            obtain ⟨left', cnt'', l', h1, h2, h3, h4, h5, h6, h7, h8, rfl⟩ := HDONE.out HST.out _ _ p2 p1 p3 p4 rfl
            exact ⟨⟨left', _, l', h1, h2, h3, h4, h5, h6, h7, h8⟩, by rw [h1.left_eq, HRG0.out.left_eq]; have := HLT0.out; omega⟩
          · have hI : (0 : Int) < (i : Int) := by omega
            have hIn : 0 < i := by omega
            have hIz : ¬ i = 0 := by omega
            have hi1 : 1 ≤ i := by omega
            clear hi0
            have hbm : l.getD (i - 1) zA ∈ l := by
              rw [List.getD_eq_getElem?_getD, List.getElem?_eq_getElem (by rw [HKL.out]; omega)]; exact List.getElem_mem _
            have hbn := HNEW.out _ hbm
            have hrow : ∀ t, t < 3 → wr.cell? ⟨gg, (i - 1) * 3 + t, none⟩ = (out3 (l.getD (i - 1) zA))[t]? := fun t ht => by
              rw [Lib.cell_of_heap HCU.out, HSHI.out (i - 1) t (by rw [HKL.out]; omega) (by omega) ht, if_pos (by omega)]
            have HDN : Hid (Shift (put3 cu i (l.getD (i - 1) zA)) l (i - 1)) := Lib.hid (shift_down HSHI.out hi1 (by rw [HKL.out]; exact hik) (by rw [HKL.out, HCUS.out]; have := HCAP.out.1; omega))
            have HLB := Lib.hid (Eq.refl (l.getD (i - 1) zA))
            generalize hb : l.getD (i - 1) zA = b at hbn hrow HDN HDONE
            have HBE := Lib.hid hb
            clear hb hbm HLB
            obtain ⟨b1, b2, b3⟩ := b
            have d0 : wr.cell? ⟨gg, (i - 1) * 3, none⟩ = some (.string b1) := hrow 0 (by decide)
            have d1 : wr.cell? ⟨gg, (i - 1) * 3 + 1, none⟩ = some (.string b3) := hrow 1 (by decide)
            have d2 : wr.cell? ⟨gg, (i - 1) * 3 + 2, none⟩ = some (.int .i64 (stN b2 : Nat)) := hrow 2 (by decide)
            have hq2 : (b1.toList == a1.toList) = false := by
              rw [beq_eq_false_iff_ne]
              exact fun e => hbn (toList_inj e)
            have HBN : Hid (b1 ≠ a1) := Lib.hid hbn
            have hwr : IntKind.i64.wrap ((i : Int) - 1) = (i : Int) - 1 := by rw [IntKind.wrap_i64]; omega
            have y1 : (0 : Int) ≤ (i : Int) - 1 := by omega
            have y2 : (i : Int) - 1 < (k : Int) + 1 := by omega
            clear hrow hbn
            obtain ⟨B, hB⟩ : ∃ B, ltS b1 a1 = B := ⟨_, rfl⟩
            have hq1 : Op.bytesLess b1.toList a1.toList = B := hB
            have HLT1 := Lib.hid hB
            clear hB
            cases B with
            | true =>
              have HST : Hid (i = 0 ∨ ltS b1 a1 = true) := Lib.hid (.inr HLT1.out)
              go_wp2
              go_quiet (fail)
              go_wp2
              obtain ⟨p1, p2, p3, p4⟩ := HPUT.out nq (a1, a2, a3)
              obtain ⟨left', cnt'', l', h1, h2, h3, h4, h5, h6, h7, h8, rfl⟩ := HDONE.out HST.out _ _ p2 p1 p3 p4 rfl
              exact ⟨⟨left', _, l', h1, h2, h3, h4, h5, h6, h7, h8⟩, by rw [h1.left_eq, HRG0.out.left_eq]; have := HLT0.out; omega⟩
            | false =>
              have HGT2 : Hid (∀ r, i - 1 ≤ r → r < l.length → ltS a1 (l.getD r zA).1 = true) := Lib.hid fun r h1 h2 => by
                by_cases e : r = i - 1
                · rw [e, HBE.out]; exact ltS_total HLT1.out HBN.out
                · exact HGT.out r (by omega) h2
              clear HDONE
              go_wp2
              go_quiet (fail)
              go_wp2
              go_roundw
              case rel =>
                obtain ⟨p1, p2, p3, p4⟩ := HPUT.out nq (b1, b2, b3)
                exact ⟨i - 1, put3 cu i (b1, b2, b3), by omega, by go_num, p1, by rw [put3_size]; exact HCUS.out, HDN.out, HGT2.out, fun q hq => (p2 q hq).trans (HHEAP.out q hq), p4, by rw [p3]; exact HSZX.out⟩
              case measure => simp [intOf]; omega
end Go.Proofs.YteipeagdflcjjaaDoor.Am
/- AttrMatch of a macro's line and a line of one part to which the macro is set. -/
namespace Go.Proofs.YteipeagdflcjjaaDoor.Am
open Go.RowKit
set_option linter.unusedSimpArgs false
set_option linter.unusedVariables false

def macA (mac : ByteArray) : AttrT := (mac, 1, ⟨#[]⟩)
theorem macA_good {mac : ByteArray} (h : IsWord mac) : GoodA (macA mac) := ⟨h, (by decide : 1 ≤ 3), fun e => absurd (show 1 = 3 from e) (by decide), fun _ => rfl⟩
theorem macA_are {mac : ByteArray} (h : IsWord mac) : AreP 1 (fun _ => macA mac) := ⟨Nat.le_refl 1, by decide, fun _ _ => macA_good h, fun i j h1 h2 => by omega⟩
theorem macA_read (mac : ByteArray) : readOf (macA mac) = macA mac := rfl
theorem macA_text (mac : ByteArray) : gaText (macA mac) = nb mac := rfl
theorem word_asc {s : ByteArray} (h : IsWord s) : Asc s := fun i hi => by
  have := word_range h _ (bx_mem hi); omega
theorem mac_nb (mac : ByteArray) : nb (macroP ++ mac) = [91, 97, 116, 116, 114, 93] ++ nb mac := by rw [nb_append]; rfl
theorem mac_range {mac : ByteArray} (h : IsWord mac) : ∀ c ∈ nb (macroP ++ mac), 33 ≤ c ∧ c ≤ 122 := by
  intro c hc
  rw [mac_nb] at hc
  rcases List.mem_append.mp hc with hc | hc
  · have : ∀ x ∈ ([91, 97, 116, 116, 114, 93] : List Nat), 33 ≤ x ∧ x ≤ 122 := by decide
    exact this c hc
  · have := word_range h c hc; omega
theorem macL_range {mac : ByteArray} {g : Nat → AttrT} (h : IsWord mac) : ∀ k, (∀ i, i < k → GoodA (g i)) → ∀ c ∈ lineL (nb (macroP ++ mac)) [32] g k, 32 ≤ c ∧ c ≤ 122 := by
  intro k
  induction k with
  | zero =>
    intro _ c hc
    have := mac_range h c hc; omega
  | succ k ih =>
    intro hg c hc
    have hc : c ∈ lineL (nb (macroP ++ mac)) [32] g k ++ ([32] ++ gaText (g k)) := hc
    rcases List.mem_append.mp hc with hc | hc
    · exact ih (fun i hi => hg i (by omega)) c hc
    · rcases List.mem_cons.mp hc with rfl | hc
      · decide
      · have := gaText_range (hg k (by omega)) c hc; omega
/-- What the reading of a macro's line asks. -/
structure MacLine (line mac : ByteArray) (n : Nat) (g : Nat → AttrT) : Prop where
  word : IsWord mac
  are : AreP n g
  text : nb line = lineL (nb (macroP ++ mac)) [32] g n
theorem MacLine.fields {line mac : ByteArray} {n : Nat} {g : Nat → AttrT} (h : MacLine line mac n g) :
    line.size ≤ 5000 ∧ 1 ≤ line.size ∧ (33 ≤ bx line 0 ∧ bx line 0 ≠ 34 ∧ bx line 0 ≠ 35) ∧ 33 ≤ bx line (line.size - 1) ∧
    fieldsN (nb line) = ((macroP ++ mac) :: (List.range n).map fun i => bs (gaText (g i))).map nb := by
  obtain ⟨hw, ⟨q1, q5, hq, _⟩, hl⟩ := h
  have hr := mac_range hw
  have hne : nb (macroP ++ mac) ≠ [] := by rw [mac_nb]; simp
  have hlen := line_len (nb (macroP ++ mac)) [32] g n hq
  have hglen : (nb (macroP ++ mac)).length ≤ 36 := by
    rw [mac_nb, List.length_append, nb_length]
    have : mac.size ≤ 30 := hw.2.2
    show 6 + mac.size ≤ 36
    omega
  have hsz : line.size = (lineL (nb (macroP ++ mac)) [32] g n).length := size_of hl
  have hlo := line_of (nb (macroP ++ mac)) [32] g hne (fun c hc => (hr c hc).1) (by simp) (fun c hc => by rw [List.mem_singleton] at hc; subst hc; decide) n hq
  obtain ⟨m, rfl⟩ : ∃ m, n = m + 1 := ⟨n - 1, by omega⟩
  have hlast := line_last (nb (macroP ++ mac)) [32] g m (hq m (by omega))
  have hm5 : (m + 1) * ([32].length + 62) ≤ 5 * 63 := Nat.mul_le_mul (by omega) (Nat.le_refl 63)
  have h0 : bx line 0 = 91 := by
    rw [bx_eq hl, line_head _ _ _ hne, mac_nb]; rfl
  have hszpos : 1 ≤ line.size := by
    rcases Nat.eq_zero_or_pos line.size with h | h
    · have : bx line 0 = 0 := by unfold bx; rw [nb_nil h]; rfl
      omega
    · exact h
  refine ⟨by omega, hszpos, ⟨by omega, by omega, by omega⟩, by rw [hsz, bx_eq hl]; exact hlast, ?_⟩
  rw [hl, hlo.fields, List.map_cons, List.map_map]
  congr 1
  refine List.map_congr_left fun i hi => ?_
  exact (nb_bs _ fun c hc => by have := gaText_range (hq i (List.mem_range.mp hi)) c hc; omega).symm
theorem gaF_len (n : Nat) (g : Nat → AttrT) : ((List.range n).map fun i => bs (gaText (g i))).length = n := by rw [List.length_map, List.length_range]
theorem gaF_at (n : Nat) (g : Nat → AttrT) (i : Nat) (hi : i < n) : ((List.range n).map fun i => bs (gaText (g i))).getD i ⟨#[]⟩ = bs (gaText (g i)) := by
  rw [List.getD_eq_getElem?_getD, List.getElem?_map, List.getElem?_range hi]; rfl
theorem readMac_any {line mac : ByteArray} {n : Nat} {g : Nat → AttrT} (h : MacLine line mac n g) (dA : Option Addr) (dn dc : Nat) (w : World) :
    Calls Tryd.prog 40 #[.string line, .slice dA dn dc, .bool true] w (OkMac mac n (fun i => readOf (g i)) w) := by
  obtain ⟨z1, z2, z3, z4, z5⟩ := h.fields
  obtain ⟨hw, ⟨q1, q5, hq, _⟩, hl⟩ := h
  have hms : mac.size ≤ 30 := hw.2.2
  have := parseMac_any line (macroP ++ mac) mac _ (fun i => readOf (g i)) dA dn dc w z1 z2 z3 z4 z5 (by rw [gaF_len]; omega) (by rw [gaF_len]; omega) (by omega) rfl (word_asc hw) (word_okN hw)
    (fun i hi => by
      rw [gaF_len] at hi
      rw [gaF_at n g i hi]
      exact gaText_read (hq i hi) (nb_bs _ fun c hc => by have := gaText_range (hq i hi) c hc; omega))
    (fun i hi => word_okN (hq i (by rw [gaF_len] at hi; exact hi)).1)
  rw [gaF_len] at this
  exact this
theorem readMacBad_any {line mac : ByteArray} {n : Nat} {g : Nat → AttrT} {a : Addr} {msg : ByteArray} (h : MacLine line mac n g) (dA : Option Addr) (dn dc : Nat) (w : World) (hv : ErrAt w 1 a msg) :
    Calls Tryd.prog 40 #[.string line, .slice dA dn dc, .bool false] w (BadLine a w) := by
  obtain ⟨z1, z2, z3, z4, z5⟩ := h.fields
  obtain ⟨hw, ⟨q1, q5, hq, _⟩, hl⟩ := h
  have hms : mac.size ≤ 30 := hw.2.2
  exact parseMacBad_any line (macroP ++ mac) mac _ a msg dA dn dc w z1 z2 z3 z4 z5 (by rw [gaF_len]; omega) (by rw [gaF_len]; omega) (by omega) rfl hv

/-! ## The two lines -/
def macSpec (mac nm : ByteArray) (n : Nat) (g : Nat → AttrT) : SpecX := ⟨2, fun i => if i = 0 then mac else nm, fun _ => [nm], fun _ => 0, fun i => if i = 0 then n else 1, fun i j => if i = 0 then readOf (g j) else macA mac, fun i => decide (i = 0)⟩
def macRM (mac : ByteArray) (n : Nat) (g : Nat → AttrT) : RM := (RM.empty.puts n (fun j => readOf (g j))).put (macA mac)
theorem macRM_M {mac : ByteArray} {n : Nat} {g : Nat → AttrT} (hd : ∀ i j, j < i → i < n → (g i).1 ≠ (g j).1) (hne : ∀ i, i < n → (g i).1 ≠ mac) (s : ByteArray) (a : AttrT) :
    (macRM mac n g).M s = some a ↔ a.1 = s ∧ (a = macA mac ∨ ∃ j, j < n ∧ readOf (g j) = a) := by
  have hd2 : ∀ i j, j < i → i < n → (readOf (g i)).1 ≠ (readOf (g j)).1 := hd
  unfold macRM RM.put
  dsimp only
  by_cases e : nb s = nb mac
  · have e2 : nb s = nb (macA mac).1 := e
    rw [if_pos e2]
    have es := nb_inj e
    subst es
    constructor
    · intro h
      injection h with h
      subst h
      exact ⟨rfl, .inl rfl⟩
    · rintro ⟨h1, h2 | ⟨j, hj, h2⟩⟩
      · rw [h2]
      · exfalso
        apply hne j hj
        rw [← h1, ← h2]; rfl
  · have e2 : ¬ nb s = nb (macA mac).1 := e
    rw [if_neg e2, puts_M n hd2]
    constructor
    · rintro ⟨j, hj, h1, h2⟩
      exact ⟨h2, .inr ⟨j, hj, h1⟩⟩
    · rintro ⟨h1, h2 | ⟨j, hj, h2⟩⟩
      · exfalso; apply e; rw [← h1, h2]; rfl
      · exact ⟨j, hj, h2, h1⟩
def MacPost (hit : Bool) (n : Nat) (g : Nat → AttrT) (mac : ByteArray) (w : World) (e : Ending) (w' : World) : Prop :=
  ∃ v l, e = .returned (.tuple #[v, .bool hit, .string ⟨#[]⟩]) ∧ (∀ a, a ∈ l ↔ hit = true ∧ (a = macA mac ∨ ∃ j, j < n ∧ readOf (g j) = a)) ∧ SortedBy (fun a : AttrT => a.1) l ∧ OutAt w' w.heap.size v l ∧ Below w.heap.size w w'
theorem mac_R {mac nm : ByteArray} {n : Nat} {g : Nat → AttrT} (hit : Nat → Bool) (dv : Value) (L : List MA) (hlen : L.length = 2) (hsay : ∀ i a, L[i]? = some a → (macSpec mac nm n g).says dv i a) :
    mgoX 0 hit (macOf L L.length) L L.length RM.empty false = if hit 1 = true then (macRM mac n g, true) else (RM.empty, false) := by
  obtain ⟨m0, m1, rfl⟩ : ∃ m0 m1, L = [m0, m1] := by
    match L, hlen with
    | [a, b], _ => exact ⟨a, b, rfl⟩
  obtain ⟨a1, a2, a3, a4, _⟩ := hsay 0 m0 rfl
  obtain ⟨b1, b2, b3, _, b5⟩ := hsay 1 m1 rfl
  obtain ⟨p, hp, _⟩ := b5 rfl
  have a4 : m0.pat = none := a4 rfl
  have a1 : m0.nm = mac := a1
  have a2 : m0.n = n := a2
  have a3 : m0.att = fun j => readOf (g j) := a3
  have b2 : m1.n = 1 := b2
  have b3 : m1.att = fun _ => macA mac := b3
  have hmac : macOf [m0, m1] 2 mac = some m0 := by
    show (if m1.pat.isNone = true ∧ nb mac = nb m1.nm then some m1 else if m0.pat.isNone = true ∧ nb mac = nb m0.nm then some m0 else none) = some m0
    rw [if_neg (by rw [hp]; exact fun h => absurd (show false = true from h.1) (by decide)), if_pos ⟨by rw [a4]; rfl, by rw [a1]⟩]
  have hput : putsX (macOf [m0, m1] 2) RM.empty m1.n m1.att = macRM mac n g := by
    rw [b2, putsX_succ, b3]
    show putX (macOf [m0, m1] 2) RM.empty (macA mac) = _
    unfold putX
    rw [if_pos (show (macA mac).2.1 = 1 from rfl)]
    unfold expR
    rw [show macOf [m0, m1] 2 (macA mac).1 = some m0 from hmac]
    dsimp only
    rw [a2, a3]; rfl
  show mgoX 0 hit (macOf [m0, m1] 2) [m0, m1] 2 RM.empty false = _
  unfold mgoX
  rw [if_neg (fun h => absurd h.1 (Nat.lt_irrefl 0))]
  show (if m1.pat.isNone = true then _ else _) = _
  rw [if_neg (by rw [hp]; exact fun e => absurd (show false = true from e) (by decide))]
  by_cases hh : hit 1 = true
  · rw [if_pos hh, if_pos hh, hput]
    unfold mgoX
    rw [if_neg (fun h => absurd h.1 (Nat.lt_irrefl 0))]
    show (if m0.pat.isNone = true then _ else _) = _
    rw [if_pos (by rw [a4]; rfl)]
    rfl
  · rw [if_neg hh, if_neg hh]
    unfold mgoX
    rw [if_neg (fun h => absurd h.1 (Nat.lt_irrefl 0))]
    show (if m0.pat.isNone = true then _ else _) = _
    rw [if_pos (by rw [a4]; rfl)]
    rfl
theorem matchMac_any (text mac nm : ByteArray) (n : Nat) (g : Nat → AttrT) (f2 : Nat → ByteArray) (pA : Option Addr) (pn pc : Nat) (ea : Addr) (msg : ByteArray) (w : World)
    (h : GoodPart nm) (hdd : hasSub nm ⟨#[42, 42]⟩ = false) (ha : AreP n g) (hw : IsWord mac) (hne : ∀ i, i < n → (g i).1 ≠ mac)
    (ht : nb text = lineL (nb (macroP ++ mac)) [32] g n ++ [10] ++ (lineL (nb nm) [32] (fun _ => macA mac) 1 ++ [10])) (hE : ErrAt w 6 ea msg) (hpt : Strs w pA pn f2) (hpn : 1 ≤ pn ∧ pn ≤ 100) (hnm : ∀ i, i < pn → Nm (f2 i)) :
    Calls Tryd.prog 29 #[.string text, .slice none 0 0, .bool true, .slice pA pn pc, .slice none 0 0] w (MacPost (MR nm (f2 (pn - 1))) n g mac w) := by
  obtain ⟨a1, a5, hga, had⟩ := ha
  have hsz : nm.size ≤ 10 := (toks_spec h).2.2.2
  have hms : mac.size ≤ 30 := hw.2.2
  have hms1 : 1 ≤ mac.size := hw.2.1
  let B : Nat → List Nat := fun i => if i = 0 then lineL (nb (macroP ++ mac)) [32] g n else lineL (nb nm) [32] (fun _ => macA mac) 1
  have ht' : nb text = ltxt B 2 := by
    rw [ht]
    show _ = ([] ++ (lineL (nb (macroP ++ mac)) [32] g n ++ [10])) ++ (lineL (nb nm) [32] (fun _ => macA mac) 1 ++ [10])
    rw [List.nil_append]
  have hBr : ∀ i, i < 2 → ∀ c ∈ B i, 32 ≤ c ∧ c ≤ 122 := by
    intro i hi c hc
    by_cases h0 : i = 0
    · subst h0; exact macL_range hw n hga c hc
    · obtain rfl : i = 1 := by omega
      exact lineL_range h 1 (fun _ _ => macA_good hw) c hc
  have hl0 := line_len (nb (macroP ++ mac)) [32] g n hga
  have hl1 : (lineL (nb nm) [32] (fun _ => macA mac) 1).length ≤ (nb nm).length + 1 * 63 := line_len (nb nm) [32] (fun _ => macA mac) 1 (fun _ _ => macA_good hw)
  have hnl : (nb nm).length = nm.size := nb_length nm
  have hml : (nb (macroP ++ mac)).length = 6 + mac.size := by rw [mac_nb, List.length_append, nb_length]; rfl
  have hmul : n * ([32].length + 62) ≤ 5 * 63 := Nat.mul_le_mul a5 (Nat.le_refl 63)
  have hlen : text.size = (lineL (nb (macroP ++ mac)) [32] g n).length + 1 + ((lineL (nb nm) [32] (fun _ => macA mac) 1).length + 1) := by
    rw [← nb_length, ht, List.length_append, List.length_append, List.length_append]; rfl
  have hS : (macSpec mac nm n g).Ok := ⟨show 2 ≤ 1000 by decide, fun i hi => (by show (if i = 0 then n else 1) ≤ 1000; split <;> omega),
    fun i hi j hj => (by
      show ((if i = 0 then readOf (g j) else macA mac) : AttrT).1.size ≤ maxLen
      by_cases h0 : i = 0
      · subst h0
        have hj : j < n := hj
        rw [if_pos rfl]
        show (g j).1.size ≤ maxLen
        have := (hga j hj).1.2.2; unfold maxLen; omega
      · rw [if_neg h0]; show mac.size ≤ maxLen; unfold maxLen; omega),
    fun i hi => (by show (if i = 0 then mac else nm : ByteArray).size ≤ maxLen; unfold maxLen; split <;> omega),
    fun i hi _ => ⟨⟨show 0 < 1 by decide, show 1 ≤ 10 by decide⟩, Nat.zero_le _, fun j hj => absurd hj (Nat.not_lt_zero _), fun j _ hj => (by
      obtain rfl : j = 0 := by have : j < 1 := hj; omega
      exact ⟨h, hdd⟩)⟩⟩
  have hK : (macRM mac n g).K ≤ 100 := by
    unfold macRM RM.put
    have := puts_K (fun j => readOf (g j)) n
    dsimp only
    split <;> omega
  have hhit : (macSpec mac nm n g).hit 0 (fun _ => ⟨#[]⟩) pn f2 1 = MR nm (f2 (pn - 1)) := hit_one nm _ pn f2 hpn.1
  refine (attrMatchX_any text (macSpec mac nm n g) (if MR nm (f2 (pn - 1)) = true then (macRM mac n g, true) else (RM.empty, false)) _ _ none pA none 0 0 pn pc 0 0 (fun _ => ⟨#[]⟩) f2 (fun _ => ⟨#[]⟩) true ea msg w ⟨by omega, by omega⟩ hS (lines_atB ht' hBr)
    (fun i hi A c W => ?_) hE (fun i hi => absurd hi (Nat.not_lt_zero _)) (by decide) hpt hpn hnm (fun i hi => absurd hi (Nat.not_lt_zero _)) (by decide) (fun dv L hL hsay => ?_) ?_ ?_).mono fun e w' hp => ?_
  · have hi2 : i < 2 := hi
    by_cases h0 : i = 0
    · subst h0
      refine (readMac_any (line := lineT (fun i => bx text i) (ltxt B 0).length (B 0).length) ⟨hw, ⟨a1, a5, hga, had⟩, line_textB (B := B) (q := 2) (i := 0) ht' (by decide) (hBr 0 (by decide))⟩ A 0 c W).mono fun e w' hl => ?_
      obtain ⟨b, h1, ⟨h2, h3, h4, h5⟩, h8⟩ := line_of_mac hl (by omega) (by omega)
      exact ⟨b, h1, ⟨h2, h3, h4, fun _ => h5, fun e => (by cases e)⟩, h8⟩
    · obtain rfl : i = 1 := by omega
      refine (readLineK (line := lineT (fun i => bx text i) (ltxt B 1).length (B 1).length) h (macA_are hw) (line_textB (B := B) (q := 2) (i := 1) ht' (by decide) (hBr 1 (by decide))) true A 0 c W).mono fun e w' hl => ?_
      obtain ⟨b, h1, ⟨h2, h3, h4, p, h5, h6, h7⟩, h8⟩ := line_of_ok hl (by decide) (by have := (toks_spec h).2.2.1; omega)
      refine ⟨b, h1, ⟨h2, h3, h4, fun e => (by cases e), fun _ => ⟨p, h5, h6, ?_⟩⟩, h8⟩
      rw [h7, splitN_one _ (part_no47 h)]; rfl
  · rw [mac_R _ dv L hL hsay, hhit]
  · intro s a hs
    by_cases hh : MR nm (f2 (pn - 1)) = true
    · rw [if_pos hh] at hs
      rw [((macRM_M had hne s a).mp hs).1]
    · rw [if_neg hh] at hs; cases hs
  · by_cases hh : MR nm (f2 (pn - 1)) = true
    · rw [if_pos hh]; exact hK
    · rw [if_neg hh]; exact Nat.zero_le _
  · obtain ⟨v, l, rfl, hm, hs, ho, hb⟩ := hp
    by_cases hh : MR nm (f2 (pn - 1)) = true
    · rw [if_pos hh] at hm
      rw [if_pos hh]
      exact ⟨v, l, by rw [hh], fun a => (hm a).trans ((macRM_M had hne a.1 a).trans ⟨fun h => ⟨hh, h.2⟩, fun h => ⟨rfl, h.2⟩⟩), hs, ho, hb⟩
    · rw [if_neg hh] at hm
      rw [if_neg hh]
      exact ⟨v, l, by rw [Bool.eq_false_iff.mpr hh], fun a => (hm a).trans ⟨fun h => (by cases h), fun h => absurd h.1 hh⟩, hs, ho, hb⟩
end Go.Proofs.YteipeagdflcjjaaDoor.Am
