/- impl.SpecOf of a right text. -/
import Derived.Test.YtnhegjjegamdfaaFmtRgH
import Derived.Laws.Tables
import Derived.LaidEql
namespace Go.Proofs.YtnhegjjegamdfaaFmt
open Go.RowKit
set_option linter.unusedSimpArgs false
set_option linter.unusedVariables false

def SpecOfPost (t : ByteArray) (X Y : List Nat) (f : Bool) (w : World) (e : Ending) (w' : World) : Prop :=
  ∃ (src rev : ByteArray) (eb wb : Bool), e = .returned (.agg #[.string ⟨#[]⟩, .string src, .string rev, .bool f, .bool false, .bool eb, .bool wb]) ∧ nb src = X.drop (if f = true then 1 else 0) ∧ nb rev = Y ++ 58 :: X ∧ (wb = true ↔ Has (nb t) [42]) ∧ Below w.heap.size w w'
theorem specKind : Tryf.prog.underlying 30 = some (.struct (match Tryf.prog.underlying 30 with | some (.struct f) => f | _ => #[])) := by kernel_rfl
theorem specSize : (Tryf.prog.info? 30).map (·.size) = some 7 := by kernel_rfl
theorem spec_one (a b c : ByteArray) (d e f g : Bool) : (#[.string a, .string b, .string c, .bool d, .bool e, .bool f, .bool g] : Array Value).all (·.oneCell') = true := by simp [Value.oneCell']
theorem setRow_rowS {w : World} {g : Nat} {C : Array Value} {T : TypeId} {m : Nat × Nat} (h : w.heap[g]? = some (.cells C T m)) (C' : Array Value) : (w.setRow g C').heap[g]? = some (.cells C' T m) := by
  simp [World.setRow, Array.getElem?_modify, h]
theorem below_setRowS {w w1 : World} {b : Nat} (h : Below w.heap.size w w1) (hb : w.heap.size ≤ b) (C : Array Value) : Below w.heap.size w (w1.setRow b C) :=
  ⟨h.os, h.tape, h.output, by simpa [World.setRow] using h.size, fun k hk => by
    have hk2 : ¬ b = k := by omega
    refine Eq.trans ?_ (h.block k hk)
    simp [World.setRow, Array.getElem?_modify, hk2]⟩
set_option maxRecDepth 100000 in
set_option maxHeartbeats 4000000 in
theorem SpecOf_any (t : ByteArray) (X Y : List Nat) (f : Bool) (w : World) (h : Spec1 t X Y) (hX : X ≠ []) (hf : bx t 0 = 43 ↔ f = true) :
    Calls Tryf.prog 10 #[.string t] w (SpecOfPost t X Y f w) := by
  have h1 : 1 ≤ t.size := by have := h.size; omega
  have hs := h.small
  have h58 : bx t 0 ≠ 58 := by
    intro h0
    cases hXc : X with
    | nil => exact hX hXc
    | cons y l =>
      have := h.head
      rw [hXc] at this
      have ht := h.text
      rw [hXc] at ht
      have hy : y = 58 := by rw [← h0]; unfold bx; rw [ht]; rfl
      exact this (by rw [hy]; simp)
  have HV := Lib.hid (fun w => specValidate_any t X Y w h)
  have HSR := Lib.hid (fun w => Src_any t X Y f w h hX hf)
  have HRV := Lib.hid (fun w => Reverse_any t X Y w h)
  have HFO := Lib.hid (fun w => IsForce_any t w h1 hs)
  have HDE := Lib.hid (fun w => IsDelete_any t w h1 hs h58)
  have HEX := Lib.hid (fun w => IsExact_any t X Y f w h hX hf)
  have HWI := Lib.hid (fun w => IsWild_any t w hs)
  have HF := Lib.hid hf
  clear h hX hf h1 hs h58
  go_enter Tryf.func10, Tryf.ntmps10
  go_wp2_with fail
  generalize hW : w.alloc _ = W1
  have HR1 : Hid (∃ C : Array Value, C.size = 7 ∧ W1.heap[w.heap.size]? = some (.cells C 30 (0, 0))) := Lib.hid (by subst hW; exact ⟨_, by kernel_rfl, heap_new _ _⟩)
  have HB1 : Hid (Below w.heap.size w W1) := Lib.hid (by subst hW; exact (Below.refl _ _).alloc (Nat.le_refl _) _)
  have HZ1 : Hid (w.heap.size < W1.heap.size) := Lib.hid (by subst hW; rw [heap_new_size]; omega)
  clear hW
  with_reducible refine (HV.out _).mono ?_
  rintro e w' ⟨rfl, rfl⟩
  go_wp2_with fail
  with_reducible refine (HSR.out _).mono ?_
  rintro e w2 ⟨src, rfl, hsrc, hb2⟩
  have HSRC := Lib.hid hsrc
  have HL2 := Lib.hid hb2
  clear hsrc hb2
  go_wp2_with fail
  with_reducible refine (HRV.out _).mono ?_
  rintro e w3 ⟨rev, rfl, hrev, hb3⟩
  have HREV := Lib.hid hrev
  have HL3 := Lib.hid (HL2.out.trans (hb3.mono HL2.out.size))
  clear hrev hb3
  go_wp2_with fail
  with_reducible refine (specStr_any _ _).mono ?_
  rintro e w' ⟨rfl, rfl⟩
  go_wp2_with fail
  with_reducible refine (HFO.out _).mono ?_
  rintro e w4 ⟨fb, rfl, hfb, hb4⟩
  have hff : fb = f := by rw [Bool.eq_iff_iff, hfb, HF.out]
  subst hff
  have HL4 := Lib.hid (HL3.out.trans (hb4.mono HL3.out.size))
  clear hfb hb4
  go_wp2_with fail
  with_reducible refine (HDE.out _).mono ?_
  rintro e w5 ⟨rfl, hb5⟩
  have HL5 := Lib.hid (HL4.out.trans (hb5.mono HL4.out.size))
  clear hb5
  go_wp2_with fail
  with_reducible refine (HEX.out _).mono ?_
  rintro e w6 ⟨eb, rfl, hb6⟩
  have HL6 := Lib.hid (HL5.out.trans (hb6.mono HL5.out.size))
  clear hb6
  go_wp2_with fail
  with_reducible refine (HWI.out _).mono ?_
  rintro e w' ⟨wb, rfl, hwb, rfl⟩
  have HWB : Hid (wb = true ↔ Has (nb t) [42]) := Lib.hid hwb
  clear hwb
  obtain ⟨C, hC, hrow0⟩ := HR1.out
  have hrow : w6.heap[w.heap.size]? = some (.cells C 30 (0, 0)) := (HL6.out.block w.heap.size HZ1.out).trans hrow0
  have HLOW : Hid (Below w.heap.size w w6) := Lib.hid (HB1.out.trans (HL6.out.mono HB1.out.size))
  have HROW := Lib.hid hrow
  clear hrow hrow0
  have HR5 : Hid ((w6.setRow w.heap.size #[.string ⟨#[]⟩, .string src, .string rev, .bool fb, .bool false, .bool eb, .bool wb]).heap[w.heap.size]? = some (.cells #[.string ⟨#[]⟩, .string src, .string rev, .bool fb, .bool false, .bool eb, .bool wb] 30 (0, 0))) := Lib.hid (setRow_rowS HROW.out _)
  have HB5 := Lib.hid (below_setRowS HLOW.out (Nat.le_refl _) #[.string ⟨#[]⟩, .string src, .string rev, .bool fb, .bool false, .bool eb, .bool wb])
  go_wp2_with (refine wpList_store_row rfl 30 (.tmp 2) (.tmp 26) rfl w.heap.size #[.string ⟨#[]⟩, .string src, .string rev, .bool fb, .bool false, .bool eb, .bool wb] rfl rfl 30 C HROW.out specSize hC (spec_one _ _ _ _ _ _ _) ?_)
  refine bodyPost_ret (results_cell_row rfl _ _ w.heap.size _ _ (0, 0) _ rfl HR5.out specKind rfl specSize) rfl ?_
  exact ⟨src, rev, eb, wb, rfl, HSRC.out, HREV.out, HWB.out, HB5.out⟩

theorem spec_err (a : ByteArray) (src rev : ByteArray) (fb eb wb d : Bool) (w : World) : (Instr.field 30 (.agg #[.string a, .string src, .string rev, .bool fb, .bool d, .bool eb, .bool wb]) 0).run Tryf.prog w = .ok (.string a) w := by kernel_rfl
theorem spec_src (a : ByteArray) (src rev : ByteArray) (fb eb wb d : Bool) (w : World) : (Instr.field 30 (.agg #[.string a, .string src, .string rev, .bool fb, .bool d, .bool eb, .bool wb]) 1).run Tryf.prog w = .ok (.string src) w := by kernel_rfl
theorem spec_rev (a : ByteArray) (src rev : ByteArray) (fb eb wb d : Bool) (w : World) : (Instr.field 30 (.agg #[.string a, .string src, .string rev, .bool fb, .bool d, .bool eb, .bool wb]) 2).run Tryf.prog w = .ok (.string rev) w := by kernel_rfl
theorem spec_force (a : ByteArray) (src rev : ByteArray) (fb eb wb d : Bool) (w : World) : (Instr.field 30 (.agg #[.string a, .string src, .string rev, .bool fb, .bool d, .bool eb, .bool wb]) 3).run Tryf.prog w = .ok (.bool fb) w := by kernel_rfl
theorem spec_delete (a : ByteArray) (src rev : ByteArray) (fb eb wb d : Bool) (w : World) : (Instr.field 30 (.agg #[.string a, .string src, .string rev, .bool fb, .bool d, .bool eb, .bool wb]) 4).run Tryf.prog w = .ok (.bool d) w := by kernel_rfl
theorem spec_wild (a : ByteArray) (src rev : ByteArray) (fb eb wb d : Bool) (w : World) : (Instr.field 30 (.agg #[.string a, .string src, .string rev, .bool fb, .bool d, .bool eb, .bool wb]) 6).run Tryf.prog w = .ok (.bool wb) w := by kernel_rfl
end Go.Proofs.YtnhegjjegamdfaaFmt
