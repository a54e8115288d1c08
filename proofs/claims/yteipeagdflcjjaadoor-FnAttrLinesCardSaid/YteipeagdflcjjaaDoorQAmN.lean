/- gitattributes' matcher: init, NewMatcher over lines without a macro. -/
import Derived.Test.YteipeagdflcjjaaDoorQAmM
import Derived.Test.YteipeagdflcjjaaDoorQLawAtLine
namespace Go.Proofs.YteipeagdflcjjaaDoor.Am
open Go.RowKit
open Go.Maps (Keyed string_keyed)
set_option linter.unusedSimpArgs false
set_option linter.unusedVariables false

/-- The lines as the loops over them read them. -/
def RowsAt (w : World) (sv : Value) (L : List MA) : Prop :=
  ∃ A c, sv = .slice A L.length c ∧ L.length ≤ maxLen ∧ ∀ (k : Nat) (a : MA), L[k]? = some a → ∃ b, A = some ⟨b, 0, none⟩ ∧ b < w.heap.size ∧ w.cell? ⟨b, k * 3, none⟩ = some (.string a.nm) ∧ w.cell? ⟨b, k * 3 + 1, none⟩ = some a.pv ∧ w.cell? ⟨b, k * 3 + 2, none⟩ = some (.slice a.A a.n a.c)
theorem RowsAt.below {w w' : World} {sv : Value} {L : List MA} (h : RowsAt w sv L) (hb : Below w.heap.size w w') : RowsAt w' sv L := by
  obtain ⟨A, c, h1, h2, h3⟩ := h
  refine ⟨A, c, h1, h2, fun k a hk => ?_⟩
  obtain ⟨b, e, hl, c0, c1, c2⟩ := h3 k a hk
  exact ⟨b, e, Nat.lt_of_lt_of_le hl hb.size, (hb.cell (p := ⟨b, _, none⟩) hl).trans c0, (hb.cell (p := ⟨b, _, none⟩) hl).trans c1, (hb.cell (p := ⟨b, _, none⟩) hl).trans c2⟩
theorem cells_get (L : List MA) (k j : Nat) (a : MA) (hk : L[k]? = some a) (hj : j < 3) : (L.flatMap MA.cells)[k * 3 + j]? = a.cells[j]? := by
  induction L generalizing k with
  | nil => simp at hk
  | cons x L ih =>
    rw [List.flatMap_cons]
    cases k with
    | zero =>
      simp at hk; subst hk
      rw [List.getElem?_append_left (by show _ < 3; omega)]
      simp
    | succ k =>
      rw [List.getElem?_append_right (by show 3 ≤ _; omega)]
      show (L.flatMap MA.cells)[(k + 1) * 3 + j - 3]? = _
      rw [show (k + 1) * 3 + j - 3 = k * 3 + j by omega]
      exact ih k (by simpa using hk)
theorem StackAt.rows {w : World} {B : Nat} {sv : Value} {L : List MA} (h : StackAt w B sv L) : RowsAt w sv L := by
  rcases h.1.2 with ⟨rfl, h0⟩ | ⟨g, cap, cur, rfl, _, hg, hn, hm, _⟩
  · refine ⟨none, 0, by rw [h0], by omega, fun k a hk => ?_⟩
    rw [List.length_eq_zero_iff.mp h0] at hk
    simp at hk
  · refine ⟨_, cap, rfl, Nat.le_trans hn hm, fun k a hk => ?_⟩
    have hat : ∀ j v, j < 3 → a.cells[j]? = some v → w.cell? ⟨g, k * 3 + j, none⟩ = some v := fun j v hj hv => by
      have hc := h.1.cells (g := g) rfl (k * 3 + j) v (by rw [cells_get L k j a hk hj]; exact hv)
      have hadd : (⟨g, 0, none⟩ : Addr).add (k * 3 + j) = ⟨g, k * 3 + j, none⟩ := by unfold Addr.add; split <;> simp_all
      rwa [hadd] at hc
    exact ⟨g, rfl, (Array.getElem?_eq_some_iff.1 hg).1, hat 0 _ (by decide) rfl, hat 1 _ (by decide) rfl, hat 2 _ (by decide) rfl⟩

/-- The matcher's block. -/
def MatAt (w : World) (mb macb : Nat) (sv : Value) : Prop := w.heap[mb]? = some (.cells #[sv, .map (some macb)] 139 (0, 0))
def InitPost (mb : Nat) (sv : Value) (w : World) (e : Ending) (w' : World) : Prop :=
  ∃ macb, (∃ r, e = .returned r) ∧ MatAt w' mb macb sv ∧ MapIs w' macb 0 (fun _ => none) 0 ∧ Below mb w w'
set_option maxRecDepth 100000 in
set_option maxHeartbeats 4000000 in
theorem init_any (mb : Nat) (sv : Value) (L : List MA) (w : World) (hL : L.length ≤ 1000) (hpat : ∀ a ∈ L, a.pat ≠ none) (hr : RowsAt w sv L) (hm : w.heap[mb]? = some (.cells #[sv, .map none] 139 (0, 0))) (hne : ∀ b, sv.ownBlock = some b → b ≠ mb) :
    Calls Tryd.prog 67 #[.pointer (some ⟨mb, 0, none⟩)] w (InitPost mb sv w) := by
  have c0 : w.cell? ⟨mb, 0, none⟩ = some sv := by rw [Lib.cell_of_heap hm]; rfl
  have c1 : w.cell? ⟨mb, 1, none⟩ = some (.map none) := by rw [Lib.cell_of_heap hm]; rfl
  have f1 : w.frozen? ⟨mb, 1, none⟩ = false := Lib.frozen_of_heap hm 1
  have hlt : mb < w.heap.size := (Array.getElem?_eq_some_iff.1 hm).1
  obtain ⟨A, c, rfl, hlm, hrow⟩ := hr
  have HR := Lib.hid hrow; have HM := Lib.hid hm; have HPA := Lib.hid hpat; have HNE := Lib.hid hne; have HLT := Lib.hid hlt
  clear hrow hm hpat hne
  go_enter Tryd.func67, Tryd.ntmps67
  have hmk := run_makeMap (P := Tryd.prog) 137 w
  have f1' : (w.alloc (.map #[] 0)).frozen? ⟨mb, 1, none⟩ = false := (World.frozen?_of_block (a := ⟨mb, 1, none⟩) (Below.heap_alloc _ _ _ hlt)).trans f1
  go_upto_region 1 with (fail)
  clear hmk c0 c1 f1 f1' hlt
  have hbl : ∀ k, k < w.heap.size → k ≠ mb → ((w.setCell ⟨mb, 1, none⟩ (.map (some w.heap.size))).alloc (.map #[] 0)).heap[k]? = w.heap[k]? := fun k h1 h2 =>
    (Below.heap_alloc _ _ _ (by rw [size_setCell]; exact h1)).trans (Below.heap_setCell _ _ _ _ h2)
  have HW : Hid (MatAt ((w.setCell ⟨mb, 1, none⟩ (.map (some w.heap.size))).alloc (.map #[] 0)) mb w.heap.size (.slice A L.length c)) := Lib.hid ((Below.heap_alloc _ _ _ (by rw [size_setCell]; exact HLT.out)).trans (Lib.heap_setCell_same (i := 1) HM.out (.map (some w.heap.size))))
  have HMW : Hid (MapIs ((w.setCell ⟨mb, 1, none⟩ (.map (some w.heap.size))).alloc (.map #[] 0)) w.heap.size 0 (fun _ => none) 0) := Lib.hid (by have h := MapIs.made (w.setCell ⟨mb, 1, none⟩ (.map (some w.heap.size))); rwa [size_setCell] at h)
  have HBW : Hid (Below mb w ((w.setCell ⟨mb, 1, none⟩ (.map (some w.heap.size))).alloc (.map #[] 0))) := Lib.hid (((Below.refl _ _).setCell (p := ⟨mb, 1, none⟩) (Nat.le_refl _) _).alloc (by rw [size_setCell]; exact Nat.le_of_lt HLT.out) _)
  have HSZ : Hid (w.heap.size ≤ ((w.setCell ⟨mb, 1, none⟩ (.map (some w.heap.size))).alloc (.map #[] 0)).heap.size) := Lib.hid (by rw [heap_new_size, size_setCell]; omega)
  have HRW : Hid (∀ (k : Nat) (a : MA), L[k]? = some a → ∃ b, A = some ⟨b, 0, none⟩ ∧ b < ((w.setCell ⟨mb, 1, none⟩ (.map (some w.heap.size))).alloc (.map #[] 0)).heap.size ∧ ((w.setCell ⟨mb, 1, none⟩ (.map (some w.heap.size))).alloc (.map #[] 0)).cell? ⟨b, k * 3, none⟩ = some (.string a.nm) ∧
      ((w.setCell ⟨mb, 1, none⟩ (.map (some w.heap.size))).alloc (.map #[] 0)).cell? ⟨b, k * 3 + 1, none⟩ = some a.pv ∧ ((w.setCell ⟨mb, 1, none⟩ (.map (some w.heap.size))).alloc (.map #[] 0)).cell? ⟨b, k * 3 + 2, none⟩ = some (.slice a.A a.n a.c)) := Lib.hid (fun k a hk => by
    obtain ⟨b, e, hl, d0, d1, d2⟩ := HR.out k a hk
    have hb := hbl b hl (HNE.out b (by rw [e]; rfl))
    exact ⟨b, e, Nat.lt_of_lt_of_le hl HSZ.out, (World.cell?_of_block (a := ⟨b, _, none⟩) hb).trans d0, (World.cell?_of_block (a := ⟨b, _, none⟩) hb).trans d1, (World.cell?_of_block (a := ⟨b, _, none⟩) hb).trans d2⟩)
  clear hbl HR
  have HSZ0 := HSZ.out
  generalize (w.setCell ⟨mb, 1, none⟩ (.map (some w.heap.size))).alloc (.map #[] 0) = W at HW HMW HBW HRW HSZ ⊢
  generalize w.heap.size = macb at HW HMW
  have c0 : W.cell? ⟨mb, 0, none⟩ = some (.slice A L.length c) := by rw [Lib.cell_of_heap HW.out]; rfl
  clear HSZ0
  generalize hn : L.length = n at *
  have HN := Lib.hid hn; clear hn
  go_wp2
  clear c0
  go_loopw [13] (fun i wr => ∃ k : Nat, k ≤ n ∧ i = .int .i64 (k : Nat) ∧ Below W.heap.size W wr) (fun i _ => n - (intOf i).toNat)
  case atStart => exact ⟨0, Nat.zero_le _, rfl, Below.refl _ _⟩
  case round =>
    obtain ⟨k, hk, rfl, hb⟩ := hrel
    have HB := Lib.hid hb
    by_cases hlt : k < n
    · obtain ⟨a, ha⟩ : ∃ a, L[k]? = some a := ⟨L[k]'(by rw [HN.out]; exact hlt), List.getElem?_eq_getElem _⟩
      obtain ⟨b, rfl, hbl, d0, d1, d2⟩ := HRW.out k a ha
      have hpv : ∃ pb, a.pv = .iface 152 (.pointer (some ⟨pb, 0, none⟩)) := by
        have := HPA.out a (List.mem_of_getElem? ha)
        unfold MA.pv
        cases hp : a.pat with
        | none => exact absurd hp this
        | some p => exact ⟨p.1, rfl⟩
      obtain ⟨pb, hpv⟩ := hpv
      rw [hpv] at d1
      have d0 := (hb.cell (p := ⟨b, k * 3, none⟩) hbl).trans d0
      have d1 := (hb.cell (p := ⟨b, k * 3 + 1, none⟩) hbl).trans d1
      have d2 := (hb.cell (p := ⟨b, k * 3 + 2, none⟩) hbl).trans d2
      clear hb ha hpv
      generalize a.nm = nm at *
      generalize a.A = aA at *
      generalize a.n = an at *
      generalize a.c = ac at *
      go_wp2
      go_roundw
      case rel => exact ⟨k + 1, by omega, by go_num, HB.out.alloc HB.out.size _⟩
      case measure => simp [intOf]; omega
    · obtain rfl : k = n := by omega
      clear hb
      go_wp2
      first | go_end0 | refine bodyPost_ret (results_none rfl _ _ _) rfl ?_
      refine ⟨macb, ⟨_, rfl⟩, (HB.out.block mb ?_).trans HW.out, HMW.out.kept (HB.out.block _ HMW.out.lt), HBW.out.trans (HB.out.mono ?_)⟩
      · exact (Array.getElem?_eq_some_iff.1 HW.out).1
      · exact Nat.le_of_lt (Array.getElem?_eq_some_iff.1 HW.out).1
end Go.Proofs.YteipeagdflcjjaaDoor.Am
