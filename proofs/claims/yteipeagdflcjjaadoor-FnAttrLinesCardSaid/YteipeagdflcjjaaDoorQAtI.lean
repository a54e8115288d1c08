/- An attribute's methods, impl.attr. -/
import Derived.Test.YteipeagdflcjjaaDoorQAtL
import Derived.Laws.OwnMore
namespace Go.Proofs.YteipeagdflcjjaaDoor
open Go.RowKit
set_option linter.unusedSimpArgs false
set_option linter.unusedVariables false

def stN (x : Nat) : Nat := if x = 1 then 1 else if x = 45 then 2 else if x = 61 then 3 else 0
set_option maxHeartbeats 400000 in
theorem m_name (a : ByteArray) (x : Nat) (b : ByteArray) (w : World) : Calls Tryd.prog 123 #[.agg #[.string a, .int .u8 (x : Nat), .string b]] w fun e w' => e = .returned (.string a) ∧ Below w.heap.size w w' := by
  go_enter Tryd.func123, Tryd.ntmps123
  go_wp2
  go_ret
  exact ⟨rfl, (Below.refl _ _).alloc (Nat.le_refl _) _⟩
set_option maxHeartbeats 400000 in
theorem m_value (a : ByteArray) (x : Nat) (b : ByteArray) (w : World) : Calls Tryd.prog 125 #[.agg #[.string a, .int .u8 (x : Nat), .string b]] w fun e w' => e = .returned (.string b) ∧ Below w.heap.size w w' := by
  go_enter Tryd.func125, Tryd.ntmps125
  go_wp2
  go_ret
  exact ⟨rfl, (Below.refl _ _).alloc (Nat.le_refl _) _⟩
set_option maxHeartbeats 400000 in
theorem m_isSet (a : ByteArray) (x : Nat) (b : ByteArray) (w : World) : Calls Tryd.prog 119 #[.agg #[.string a, .int .u8 (x : Nat), .string b]] w fun e w' => e = .returned (.bool ((x : Int) == 1)) ∧ Below w.heap.size w w' := by
  go_enter Tryd.func119, Tryd.ntmps119
  go_wp2
  go_ret
  exact ⟨rfl, (Below.refl _ _).alloc (Nat.le_refl _) _⟩
set_option maxHeartbeats 400000 in
theorem m_isUnset (a : ByteArray) (x : Nat) (b : ByteArray) (w : World) : Calls Tryd.prog 120 #[.agg #[.string a, .int .u8 (x : Nat), .string b]] w fun e w' => e = .returned (.bool ((x : Int) == 45)) ∧ Below w.heap.size w w' := by
  go_enter Tryd.func120, Tryd.ntmps120
  go_wp2
  go_ret
  exact ⟨rfl, (Below.refl _ _).alloc (Nat.le_refl _) _⟩
set_option maxHeartbeats 400000 in
theorem m_isVal (a : ByteArray) (x : Nat) (b : ByteArray) (w : World) : Calls Tryd.prog 122 #[.agg #[.string a, .int .u8 (x : Nat), .string b]] w fun e w' => e = .returned (.bool ((x : Int) == 61)) ∧ Below w.heap.size w w' := by
  go_enter Tryd.func122, Tryd.ntmps122
  go_wp2
  go_ret
  exact ⟨rfl, (Below.refl _ _).alloc (Nat.le_refl _) _⟩

theorem lt_of_block' {w : World} {b : Nat} {o : Obj} (h : w.heap[b]? = some o) : b < w.heap.size := (Array.getElem?_eq_some_iff.1 h).1
def AttrPost (a : ByteArray) (x : Nat) (b : ByteArray) (w : World) (e : Ending) (w' : World) : Prop := e = .returned (.agg #[.string a, .string b, .int .i64 (stN x : Nat)]) ∧ Below w.heap.size w w'
set_option maxRecDepth 100000 in
set_option maxHeartbeats 4000000 in
theorem attr_any (a : ByteArray) (x : Nat) (b : ByteArray) (w : World) : Calls Tryd.prog 41 #[.iface 127 (.agg #[.string a, .int .u8 (x : Nat), .string b])] w (AttrPost a x b w) := by
  have n1 : ∀ (w : World), (nilAhead 321 127 (.agg #[.string a, .int .u8 (x : Nat), .string b]) "Name").run Tryd.prog w = .ok (some false) w := fun _ => by kernel_rfl
  have n2 : ∀ (w : World), (nilAhead 321 127 (.agg #[.string a, .int .u8 (x : Nat), .string b]) "Value").run Tryd.prog w = .ok (some false) w := fun _ => by kernel_rfl
  have n3 : ∀ (w : World), (nilAhead 321 127 (.agg #[.string a, .int .u8 (x : Nat), .string b]) "IsSet").run Tryd.prog w = .ok (some false) w := fun _ => by kernel_rfl
  have n4 : ∀ (w : World), (nilAhead 321 127 (.agg #[.string a, .int .u8 (x : Nat), .string b]) "IsUnset").run Tryd.prog w = .ok (some false) w := fun _ => by kernel_rfl
  have n5 : ∀ (w : World), (nilAhead 321 127 (.agg #[.string a, .int .u8 (x : Nat), .string b]) "IsValueSet").run Tryd.prog w = .ok (some false) w := fun _ => by kernel_rfl
  have m1 : ∀ (w : World), (method 321 127 (.agg #[.string a, .int .u8 (x : Nat), .string b]) "Name").run Tryd.prog w = .ok (123, .agg #[.string a, .int .u8 (x : Nat), .string b]) w := fun _ => by kernel_rfl
  have m2 : ∀ (w : World), (method 321 127 (.agg #[.string a, .int .u8 (x : Nat), .string b]) "Value").run Tryd.prog w = .ok (125, .agg #[.string a, .int .u8 (x : Nat), .string b]) w := fun _ => by kernel_rfl
  have m3 : ∀ (w : World), (method 321 127 (.agg #[.string a, .int .u8 (x : Nat), .string b]) "IsSet").run Tryd.prog w = .ok (119, .agg #[.string a, .int .u8 (x : Nat), .string b]) w := fun _ => by kernel_rfl
  have m4 : ∀ (w : World), (method 321 127 (.agg #[.string a, .int .u8 (x : Nat), .string b]) "IsUnset").run Tryd.prog w = .ok (120, .agg #[.string a, .int .u8 (x : Nat), .string b]) w := fun _ => by kernel_rfl
  have m5 : ∀ (w : World), (method 321 127 (.agg #[.string a, .int .u8 (x : Nat), .string b]) "IsValueSet").run Tryd.prog w = .ok (122, .agg #[.string a, .int .u8 (x : Nat), .string b]) w := fun _ => by kernel_rfl
  go_enter Tryd.func41, Tryd.ntmps41
  go_wp2_with fail
  have hb0 : Hid (Below w.heap.size w (w.alloc (.cells #[.string ⟨#[]⟩, .string ⟨#[]⟩, .int .i64 0] 48))) := Lib.hid ((Below.refl _ _).alloc (Nat.le_refl _) _)
  have hr0 : Hid ((w.alloc (.cells #[.string ⟨#[]⟩, .string ⟨#[]⟩, .int .i64 0] 48)).heap[w.heap.size]? = some (.cells #[.string ⟨#[]⟩, .string ⟨#[]⟩, .int .i64 0] 48 (0, 0))) := Lib.hid (heap_new w _)
  have hs0 : w.heap.size < (w.alloc (.cells #[.string ⟨#[]⟩, .string ⟨#[]⟩, .int .i64 0] 48)).heap.size := by rw [heap_new_size]; omega
  generalize w.alloc (.cells #[.string ⟨#[]⟩, .string ⟨#[]⟩, .int .i64 0] 48) = W0 at hb0 hr0 hs0 ⊢
  with_reducible refine (m_name a x b _).mono ?_
  rintro e W1 ⟨rfl, h1⟩
  have HB1 : Hid (Below W0.heap.size W0 W1) := Lib.hid h1
  clear h1
  go_wp2_with fail
  with_reducible refine (m_value a x b _).mono ?_
  rintro e W2 ⟨rfl, h2⟩
  have HB2 : Hid (Below W0.heap.size W0 W2) := Lib.hid (HB1.out.trans (h2.mono HB1.out.size))
  have hs2 : w.heap.size < W2.heap.size := Nat.lt_of_lt_of_le hs0 HB2.out.size
  clear h2 HB1
  go_wp2_with fail
  have hbA : Hid (Below W0.heap.size W0 (W2.alloc (.cells #[.string a, .string b, .int .i64 0] 48))) := Lib.hid (HB2.out.alloc HB2.out.size _)
  have hrA : Hid ((W2.alloc (.cells #[.string a, .string b, .int .i64 0] 48)).heap[W2.heap.size]? = some (.cells #[.string a, .string b, .int .i64 0] 48 (0, 0))) := Lib.hid (heap_new W2 _)
  have hsA : W2.heap.size < (W2.alloc (.cells #[.string a, .string b, .int .i64 0] 48)).heap.size := by rw [heap_new_size]; omega
  generalize hxb : W2.heap.size = xb at *
  generalize W2.alloc (.cells #[.string a, .string b, .int .i64 0] 48) = W3 at hbA hrA hsA ⊢
  with_reducible refine (m_isSet a x b _).mono ?_
  rintro e W4 ⟨rfl, h4⟩
  have HB4 : Hid (Below W3.heap.size W3 W4) := Lib.hid h4
  clear h4 hxb
  have hx4 : Hid (W4.heap[xb]? = some (.cells #[.string a, .string b, .int .i64 0] 48 (0, 0))) := Lib.hid ((HB4.out.block xb hsA).trans hrA.out)
  have hr4 : Hid (W4.heap[w.heap.size]? = some (.cells #[.string ⟨#[]⟩, .string ⟨#[]⟩, .int .i64 0] 48 (0, 0))) := Lib.hid ((HB4.out.block w.heap.size (by omega)).trans ((hbA.out.block w.heap.size hs0).trans hr0.out))
  have HB4w : Hid (Below w.heap.size w W4) := Lib.hid ((hb0.out.trans (hbA.out.mono hb0.out.size)).trans (HB4.out.mono (by have := hb0.out.size; omega)))
  clear hrA hr0 HB4
  have hne : xb ≠ w.heap.size := by omega
  have hord4 : w.heap.size ≤ xb ∧ xb < W4.heap.size := ⟨by omega, lt_of_block' hx4.out⟩
  by_cases hx1 : x = 1
  · have q1 : ((x : Int) == 1) = true := beq_iff_eq.mpr (by omega)
    have HST : Hid (stN x = 1) := Lib.hid (by unfold stN; rw [if_pos hx1])
    clear hx1
    have d2 : W4.cell? ⟨xb, 2, none⟩ = some (.int .i64 0) := by rw [Lib.cell_of_heap hx4.out]; rfl
    have f2 : W4.frozen? ⟨xb, 2, none⟩ = false := Lib.frozen_of_heap hx4.out 2
    have hx9 : Hid ((W4.setCell ⟨xb, 2, none⟩ (.int .i64 1)).heap[xb]? = some (.cells #[.string a, .string b, .int .i64 1] 48 (0, 0))) := Lib.hid (Lib.heap_setCell_same (i := 2) hx4.out _)
    have hr9 : Hid ((W4.setCell ⟨xb, 2, none⟩ (.int .i64 1)).heap[w.heap.size]? = some (.cells #[.string ⟨#[]⟩, .string ⟨#[]⟩, .int .i64 0] 48 (0, 0))) := Lib.hid (by rw [Below.heap_setCell _ _ _ _ (Ne.symm hne)]; exact hr4.out)
    have HB9 : Hid (Below w.heap.size w (W4.setCell ⟨xb, 2, none⟩ (.int .i64 1))) := Lib.hid (HB4w.out.setCell (p := ⟨xb, 2, none⟩) hord4.1 _)
    go_upto_region 8 with (fail)
    clear d2 f2
    generalize W4.setCell ⟨xb, 2, none⟩ (.int .i64 1) = W9 at hx9 hr9 HB9 ⊢
    have c0 : W9.cell? ⟨xb, 0, none⟩ = some (.string a) := by rw [Lib.cell_of_heap hx9.out]; rfl
    have c1 : W9.cell? ⟨xb, 1, none⟩ = some (.string b) := by rw [Lib.cell_of_heap hx9.out]; rfl
    have c2 : W9.cell? ⟨xb, 2, none⟩ = some (.int .i64 1) := by rw [Lib.cell_of_heap hx9.out]; rfl
    have r0 : W9.cell? ⟨w.heap.size, 0, none⟩ = some (.string ⟨#[]⟩) := by rw [Lib.cell_of_heap hr9.out]; rfl
    have r1 : W9.cell? ⟨w.heap.size, 1, none⟩ = some (.string ⟨#[]⟩) := by rw [Lib.cell_of_heap hr9.out]; rfl
    have r2 : W9.cell? ⟨w.heap.size, 2, none⟩ = some (.int .i64 0) := by rw [Lib.cell_of_heap hr9.out]; rfl
    have g0 : W9.frozen? ⟨w.heap.size, 0, none⟩ = false := Lib.frozen_of_heap hr9.out 0
    have g1 : W9.frozen? ⟨w.heap.size, 1, none⟩ = false := Lib.frozen_of_heap hr9.out 1
    have g2 : W9.frozen? ⟨w.heap.size, 2, none⟩ = false := Lib.frozen_of_heap hr9.out 2
    have hF := Lib.heap_setCell_same (i := 2) (Lib.heap_setCell_same (i := 1) (Lib.heap_setCell_same (i := 0) hr9.out (.string a)) (.string b)) (.int .i64 1)
    have HF := Lib.hid hF; clear hF
    go_wp2
    have k0 : (((W9.setCell ⟨w.heap.size, 0, none⟩ (.string a)).setCell ⟨w.heap.size, 1, none⟩ (.string b)).setCell ⟨w.heap.size, 2, none⟩ (.int .i64 1)).cell? ⟨w.heap.size, 0, none⟩ = some (.string a) := by rw [Lib.cell_of_heap HF.out]; rfl
    have k1 : (((W9.setCell ⟨w.heap.size, 0, none⟩ (.string a)).setCell ⟨w.heap.size, 1, none⟩ (.string b)).setCell ⟨w.heap.size, 2, none⟩ (.int .i64 1)).cell? ⟨w.heap.size, 1, none⟩ = some (.string b) := by rw [Lib.cell_of_heap HF.out]; rfl
    have k2 : (((W9.setCell ⟨w.heap.size, 0, none⟩ (.string a)).setCell ⟨w.heap.size, 1, none⟩ (.string b)).setCell ⟨w.heap.size, 2, none⟩ (.int .i64 1)).cell? ⟨w.heap.size, 2, none⟩ = some (.int .i64 1) := by rw [Lib.cell_of_heap HF.out]; rfl
    refine bodyPost_ret (v := .agg #[.string a, .string b, .int .i64 1]) (by simp [results, Tryd.results41, go_sem, k0, k1, k2]) rfl ⟨by rw [HST.out]; rfl, ?_⟩
    exact ((HB9.out.setCell (p := ⟨w.heap.size, 0, none⟩) (Nat.le_refl _) _).setCell (p := ⟨w.heap.size, 1, none⟩) (Nat.le_refl _) _).setCell (p := ⟨w.heap.size, 2, none⟩) (Nat.le_refl _) _
  · have q1 : ((x : Int) == 1) = false := beq_eq_false_iff_ne.mpr (by omega)
    by_cases hx2 : x = 45
    · have q2 : ((x : Int) == 45) = true := beq_iff_eq.mpr (by omega)
      have HST : Hid (stN x = 2) := Lib.hid (by unfold stN; rw [if_neg hx1, if_pos hx2])
      clear hx1 hx2
      go_wp2_with fail
      with_reducible refine (m_isUnset a x b _).mono ?_
      rintro e W5 ⟨rfl, h5⟩
      have hx5 : Hid (W5.heap[xb]? = some (.cells #[.string a, .string b, .int .i64 0] 48 (0, 0))) := Lib.hid ((h5.block xb (lt_of_block' hx4.out)).trans hx4.out)
      have hr5 : Hid (W5.heap[w.heap.size]? = some (.cells #[.string ⟨#[]⟩, .string ⟨#[]⟩, .int .i64 0] 48 (0, 0))) := Lib.hid ((h5.block w.heap.size (lt_of_block' hr4.out)).trans hr4.out)
      have HB5w : Hid (Below w.heap.size w W5) := Lib.hid (HB4w.out.trans (h5.mono HB4w.out.size))
      clear h5
      have d2 : W5.cell? ⟨xb, 2, none⟩ = some (.int .i64 0) := by rw [Lib.cell_of_heap hx5.out]; rfl
      have f2 : W5.frozen? ⟨xb, 2, none⟩ = false := Lib.frozen_of_heap hx5.out 2
      have hx9 : Hid ((W5.setCell ⟨xb, 2, none⟩ (.int .i64 2)).heap[xb]? = some (.cells #[.string a, .string b, .int .i64 2] 48 (0, 0))) := Lib.hid (Lib.heap_setCell_same (i := 2) hx5.out _)
      have hr9 : Hid ((W5.setCell ⟨xb, 2, none⟩ (.int .i64 2)).heap[w.heap.size]? = some (.cells #[.string ⟨#[]⟩, .string ⟨#[]⟩, .int .i64 0] 48 (0, 0))) := Lib.hid (by rw [Below.heap_setCell _ _ _ _ (Ne.symm hne)]; exact hr5.out)
      have HB9 : Hid (Below w.heap.size w (W5.setCell ⟨xb, 2, none⟩ (.int .i64 2))) := Lib.hid (HB5w.out.setCell (p := ⟨xb, 2, none⟩) hord4.1 _)
      go_upto_region 8 with (fail)
      clear d2 f2
      generalize W5.setCell ⟨xb, 2, none⟩ (.int .i64 2) = W9 at hx9 hr9 HB9 ⊢
      have c0 : W9.cell? ⟨xb, 0, none⟩ = some (.string a) := by rw [Lib.cell_of_heap hx9.out]; rfl
      have c1 : W9.cell? ⟨xb, 1, none⟩ = some (.string b) := by rw [Lib.cell_of_heap hx9.out]; rfl
      have c2 : W9.cell? ⟨xb, 2, none⟩ = some (.int .i64 2) := by rw [Lib.cell_of_heap hx9.out]; rfl
      have r0 : W9.cell? ⟨w.heap.size, 0, none⟩ = some (.string ⟨#[]⟩) := by rw [Lib.cell_of_heap hr9.out]; rfl
      have r1 : W9.cell? ⟨w.heap.size, 1, none⟩ = some (.string ⟨#[]⟩) := by rw [Lib.cell_of_heap hr9.out]; rfl
      have r2 : W9.cell? ⟨w.heap.size, 2, none⟩ = some (.int .i64 0) := by rw [Lib.cell_of_heap hr9.out]; rfl
      have g0 : W9.frozen? ⟨w.heap.size, 0, none⟩ = false := Lib.frozen_of_heap hr9.out 0
      have g1 : W9.frozen? ⟨w.heap.size, 1, none⟩ = false := Lib.frozen_of_heap hr9.out 1
      have g2 : W9.frozen? ⟨w.heap.size, 2, none⟩ = false := Lib.frozen_of_heap hr9.out 2
      have hF := Lib.heap_setCell_same (i := 2) (Lib.heap_setCell_same (i := 1) (Lib.heap_setCell_same (i := 0) hr9.out (.string a)) (.string b)) (.int .i64 2)
      have HF := Lib.hid hF; clear hF
      go_wp2
      have k0 : (((W9.setCell ⟨w.heap.size, 0, none⟩ (.string a)).setCell ⟨w.heap.size, 1, none⟩ (.string b)).setCell ⟨w.heap.size, 2, none⟩ (.int .i64 2)).cell? ⟨w.heap.size, 0, none⟩ = some (.string a) := by rw [Lib.cell_of_heap HF.out]; rfl
      have k1 : (((W9.setCell ⟨w.heap.size, 0, none⟩ (.string a)).setCell ⟨w.heap.size, 1, none⟩ (.string b)).setCell ⟨w.heap.size, 2, none⟩ (.int .i64 2)).cell? ⟨w.heap.size, 1, none⟩ = some (.string b) := by rw [Lib.cell_of_heap HF.out]; rfl
      have k2 : (((W9.setCell ⟨w.heap.size, 0, none⟩ (.string a)).setCell ⟨w.heap.size, 1, none⟩ (.string b)).setCell ⟨w.heap.size, 2, none⟩ (.int .i64 2)).cell? ⟨w.heap.size, 2, none⟩ = some (.int .i64 2) := by rw [Lib.cell_of_heap HF.out]; rfl
      refine bodyPost_ret (v := .agg #[.string a, .string b, .int .i64 2]) (by simp [results, Tryd.results41, go_sem, k0, k1, k2]) rfl ⟨by rw [HST.out]; rfl, ?_⟩
      exact ((HB9.out.setCell (p := ⟨w.heap.size, 0, none⟩) (Nat.le_refl _) _).setCell (p := ⟨w.heap.size, 1, none⟩) (Nat.le_refl _) _).setCell (p := ⟨w.heap.size, 2, none⟩) (Nat.le_refl _) _
    · have q2 : ((x : Int) == 45) = false := beq_eq_false_iff_ne.mpr (by omega)
      by_cases hx3 : x = 61
      · have q3 : ((x : Int) == 61) = true := beq_iff_eq.mpr (by omega)
        have HST : Hid (stN x = 3) := Lib.hid (by unfold stN; rw [if_neg hx1, if_neg hx2, if_pos hx3])
        clear hx1 hx2 hx3
        go_wp2_with fail
        with_reducible refine (m_isUnset a x b _).mono ?_
        rintro e W5 ⟨rfl, h5⟩
        have hx5 : Hid (W5.heap[xb]? = some (.cells #[.string a, .string b, .int .i64 0] 48 (0, 0))) := Lib.hid ((h5.block xb (lt_of_block' hx4.out)).trans hx4.out)
        have hr5 : Hid (W5.heap[w.heap.size]? = some (.cells #[.string ⟨#[]⟩, .string ⟨#[]⟩, .int .i64 0] 48 (0, 0))) := Lib.hid ((h5.block w.heap.size (lt_of_block' hr4.out)).trans hr4.out)
        have HB5w : Hid (Below w.heap.size w W5) := Lib.hid (HB4w.out.trans (h5.mono HB4w.out.size))
        clear h5
        go_wp2_with fail
        with_reducible refine (m_isVal a x b _).mono ?_
        rintro e W6 ⟨rfl, h6⟩
        have hx6 : Hid (W6.heap[xb]? = some (.cells #[.string a, .string b, .int .i64 0] 48 (0, 0))) := Lib.hid ((h6.block xb (lt_of_block' hx5.out)).trans hx5.out)
        have hr6 : Hid (W6.heap[w.heap.size]? = some (.cells #[.string ⟨#[]⟩, .string ⟨#[]⟩, .int .i64 0] 48 (0, 0))) := Lib.hid ((h6.block w.heap.size (lt_of_block' hr5.out)).trans hr5.out)
        have HB6w : Hid (Below w.heap.size w W6) := Lib.hid (HB5w.out.trans (h6.mono HB5w.out.size))
        clear h6
        have d2 : W6.cell? ⟨xb, 2, none⟩ = some (.int .i64 0) := by rw [Lib.cell_of_heap hx6.out]; rfl
        have f2 : W6.frozen? ⟨xb, 2, none⟩ = false := Lib.frozen_of_heap hx6.out 2
        have hx9 : Hid ((W6.setCell ⟨xb, 2, none⟩ (.int .i64 3)).heap[xb]? = some (.cells #[.string a, .string b, .int .i64 3] 48 (0, 0))) := Lib.hid (Lib.heap_setCell_same (i := 2) hx6.out _)
        have hr9 : Hid ((W6.setCell ⟨xb, 2, none⟩ (.int .i64 3)).heap[w.heap.size]? = some (.cells #[.string ⟨#[]⟩, .string ⟨#[]⟩, .int .i64 0] 48 (0, 0))) := Lib.hid (by rw [Below.heap_setCell _ _ _ _ (Ne.symm hne)]; exact hr6.out)
        have HB9 : Hid (Below w.heap.size w (W6.setCell ⟨xb, 2, none⟩ (.int .i64 3))) := Lib.hid (HB6w.out.setCell (p := ⟨xb, 2, none⟩) hord4.1 _)
        go_upto_region 8 with (fail)
        clear d2 f2
        generalize W6.setCell ⟨xb, 2, none⟩ (.int .i64 3) = W9 at hx9 hr9 HB9 ⊢
        have c0 : W9.cell? ⟨xb, 0, none⟩ = some (.string a) := by rw [Lib.cell_of_heap hx9.out]; rfl
        have c1 : W9.cell? ⟨xb, 1, none⟩ = some (.string b) := by rw [Lib.cell_of_heap hx9.out]; rfl
        have c2 : W9.cell? ⟨xb, 2, none⟩ = some (.int .i64 3) := by rw [Lib.cell_of_heap hx9.out]; rfl
        have r0 : W9.cell? ⟨w.heap.size, 0, none⟩ = some (.string ⟨#[]⟩) := by rw [Lib.cell_of_heap hr9.out]; rfl
        have r1 : W9.cell? ⟨w.heap.size, 1, none⟩ = some (.string ⟨#[]⟩) := by rw [Lib.cell_of_heap hr9.out]; rfl
        have r2 : W9.cell? ⟨w.heap.size, 2, none⟩ = some (.int .i64 0) := by rw [Lib.cell_of_heap hr9.out]; rfl
        have g0 : W9.frozen? ⟨w.heap.size, 0, none⟩ = false := Lib.frozen_of_heap hr9.out 0
        have g1 : W9.frozen? ⟨w.heap.size, 1, none⟩ = false := Lib.frozen_of_heap hr9.out 1
        have g2 : W9.frozen? ⟨w.heap.size, 2, none⟩ = false := Lib.frozen_of_heap hr9.out 2
        have hF := Lib.heap_setCell_same (i := 2) (Lib.heap_setCell_same (i := 1) (Lib.heap_setCell_same (i := 0) hr9.out (.string a)) (.string b)) (.int .i64 3)
        have HF := Lib.hid hF; clear hF
        go_wp2
        have k0 : (((W9.setCell ⟨w.heap.size, 0, none⟩ (.string a)).setCell ⟨w.heap.size, 1, none⟩ (.string b)).setCell ⟨w.heap.size, 2, none⟩ (.int .i64 3)).cell? ⟨w.heap.size, 0, none⟩ = some (.string a) := by rw [Lib.cell_of_heap HF.out]; rfl
        have k1 : (((W9.setCell ⟨w.heap.size, 0, none⟩ (.string a)).setCell ⟨w.heap.size, 1, none⟩ (.string b)).setCell ⟨w.heap.size, 2, none⟩ (.int .i64 3)).cell? ⟨w.heap.size, 1, none⟩ = some (.string b) := by rw [Lib.cell_of_heap HF.out]; rfl
        have k2 : (((W9.setCell ⟨w.heap.size, 0, none⟩ (.string a)).setCell ⟨w.heap.size, 1, none⟩ (.string b)).setCell ⟨w.heap.size, 2, none⟩ (.int .i64 3)).cell? ⟨w.heap.size, 2, none⟩ = some (.int .i64 3) := by rw [Lib.cell_of_heap HF.out]; rfl
        refine bodyPost_ret (v := .agg #[.string a, .string b, .int .i64 3]) (by simp [results, Tryd.results41, go_sem, k0, k1, k2]) rfl ⟨by rw [HST.out]; rfl, ?_⟩
        exact ((HB9.out.setCell (p := ⟨w.heap.size, 0, none⟩) (Nat.le_refl _) _).setCell (p := ⟨w.heap.size, 1, none⟩) (Nat.le_refl _) _).setCell (p := ⟨w.heap.size, 2, none⟩) (Nat.le_refl _) _
      · have q3 : ((x : Int) == 61) = false := beq_eq_false_iff_ne.mpr (by omega)
        have HST : Hid (stN x = 0) := Lib.hid (by unfold stN; rw [if_neg hx1, if_neg hx2, if_neg hx3])
        clear hx1 hx2 hx3
        go_wp2_with fail
        with_reducible refine (m_isUnset a x b _).mono ?_
        rintro e W5 ⟨rfl, h5⟩
        have hx5 : Hid (W5.heap[xb]? = some (.cells #[.string a, .string b, .int .i64 0] 48 (0, 0))) := Lib.hid ((h5.block xb (lt_of_block' hx4.out)).trans hx4.out)
        have hr5 : Hid (W5.heap[w.heap.size]? = some (.cells #[.string ⟨#[]⟩, .string ⟨#[]⟩, .int .i64 0] 48 (0, 0))) := Lib.hid ((h5.block w.heap.size (lt_of_block' hr4.out)).trans hr4.out)
        have HB5w : Hid (Below w.heap.size w W5) := Lib.hid (HB4w.out.trans (h5.mono HB4w.out.size))
        clear h5
        go_wp2_with fail
        with_reducible refine (m_isVal a x b _).mono ?_
        rintro e W6 ⟨rfl, h6⟩
        have hx6 : Hid (W6.heap[xb]? = some (.cells #[.string a, .string b, .int .i64 0] 48 (0, 0))) := Lib.hid ((h6.block xb (lt_of_block' hx5.out)).trans hx5.out)
        have hr6 : Hid (W6.heap[w.heap.size]? = some (.cells #[.string ⟨#[]⟩, .string ⟨#[]⟩, .int .i64 0] 48 (0, 0))) := Lib.hid ((h6.block w.heap.size (lt_of_block' hr5.out)).trans hr5.out)
        have HB6w : Hid (Below w.heap.size w W6) := Lib.hid (HB5w.out.trans (h6.mono HB5w.out.size))
        clear h6
        go_upto_region 8 with (fail)
        have c0 : W6.cell? ⟨xb, 0, none⟩ = some (.string a) := by rw [Lib.cell_of_heap hx6.out]; rfl
        have c1 : W6.cell? ⟨xb, 1, none⟩ = some (.string b) := by rw [Lib.cell_of_heap hx6.out]; rfl
        have c2 : W6.cell? ⟨xb, 2, none⟩ = some (.int .i64 0) := by rw [Lib.cell_of_heap hx6.out]; rfl
        have r0 : W6.cell? ⟨w.heap.size, 0, none⟩ = some (.string ⟨#[]⟩) := by rw [Lib.cell_of_heap hr6.out]; rfl
        have r1 : W6.cell? ⟨w.heap.size, 1, none⟩ = some (.string ⟨#[]⟩) := by rw [Lib.cell_of_heap hr6.out]; rfl
        have r2 : W6.cell? ⟨w.heap.size, 2, none⟩ = some (.int .i64 0) := by rw [Lib.cell_of_heap hr6.out]; rfl
        have g0 : W6.frozen? ⟨w.heap.size, 0, none⟩ = false := Lib.frozen_of_heap hr6.out 0
        have g1 : W6.frozen? ⟨w.heap.size, 1, none⟩ = false := Lib.frozen_of_heap hr6.out 1
        have g2 : W6.frozen? ⟨w.heap.size, 2, none⟩ = false := Lib.frozen_of_heap hr6.out 2
        have hF := Lib.heap_setCell_same (i := 2) (Lib.heap_setCell_same (i := 1) (Lib.heap_setCell_same (i := 0) hr6.out (.string a)) (.string b)) (.int .i64 0)
        have HF := Lib.hid hF; clear hF
        go_wp2
        have k0 : (((W6.setCell ⟨w.heap.size, 0, none⟩ (.string a)).setCell ⟨w.heap.size, 1, none⟩ (.string b)).setCell ⟨w.heap.size, 2, none⟩ (.int .i64 0)).cell? ⟨w.heap.size, 0, none⟩ = some (.string a) := by rw [Lib.cell_of_heap HF.out]; rfl
        have k1 : (((W6.setCell ⟨w.heap.size, 0, none⟩ (.string a)).setCell ⟨w.heap.size, 1, none⟩ (.string b)).setCell ⟨w.heap.size, 2, none⟩ (.int .i64 0)).cell? ⟨w.heap.size, 1, none⟩ = some (.string b) := by rw [Lib.cell_of_heap HF.out]; rfl
        have k2 : (((W6.setCell ⟨w.heap.size, 0, none⟩ (.string a)).setCell ⟨w.heap.size, 1, none⟩ (.string b)).setCell ⟨w.heap.size, 2, none⟩ (.int .i64 0)).cell? ⟨w.heap.size, 2, none⟩ = some (.int .i64 0) := by rw [Lib.cell_of_heap HF.out]; rfl
        refine bodyPost_ret (v := .agg #[.string a, .string b, .int .i64 0]) (by simp [results, Tryd.results41, go_sem, k0, k1, k2]) rfl ⟨by rw [HST.out]; rfl, ?_⟩
        exact ((HB6w.out.setCell (p := ⟨w.heap.size, 0, none⟩) (Nat.le_refl _) _).setCell (p := ⟨w.heap.size, 1, none⟩) (Nat.le_refl _) _).setCell (p := ⟨w.heap.size, 2, none⟩) (Nat.le_refl _) _
end Go.Proofs.YteipeagdflcjjaaDoor
/- AttrLine, where every attribute is right. -/
namespace Go.Proofs.YteipeagdflcjjaaDoor
open Go.RowKit
set_option linter.unusedSimpArgs false
set_option linter.unusedVariables false

theorem outInfo : (Tryd.prog.info? 48).map (fun i => (i.zero, i.size, i.bytes)) = some (some (.agg #[.string ⟨#[]⟩, .string ⟨#[]⟩, .int .i64 0]), 3, 40) := by kernel_rfl
theorem outsKind : Tryd.prog.underlying 44 = some (.slice 48) := by kernel_rfl
def out3 (a : AttrT) : List Value := [.string a.1, .string a.2.2, .int .i64 (stN a.2.1 : Nat)]
def outsV (att : Nat → AttrT) (k : Nat) : List Value := (List.range k).flatMap fun i => out3 (att i)
theorem outsV_succ (att : Nat → AttrT) (k : Nat) : outsV att (k + 1) = outsV att k ++ out3 (att k) := by unfold outsV; rw [List.range_succ, List.flatMap_append]; simp
theorem news_out (w : World) (a : AttrT) : ∀ (j : Nat) (u : Value), (out3 a)[j]? = some u → (w.alloc (.cells #[.string a.1, .string a.2.2, .int .i64 (stN a.2.1 : Nat)] 48)).cell? ((⟨w.heap.size, 0, none⟩ : Addr).add j) = some u := by
  intro j u hj
  have hadd : (⟨w.heap.size, 0, none⟩ : Addr).add j = ⟨w.heap.size, j, none⟩ := by unfold Addr.add; split <;> simp_all
  rw [hadd]
  exact (World.cell?_alloc_mark w #[.string a.1, .string a.2.2, .int .i64 (stN a.2.1 : Nat)] 48 (0, 0) j).trans (by rw [← hj]; unfold out3; simp)
theorem one_out (a : AttrT) : ∀ u ∈ out3 a, u.oneCell' = true := by
  intro u hu
  unfold out3 at hu
  simp at hu
  rcases hu with rfl | rfl | rfl <;> rfl
theorem results_tmp4 {fn : Func} {t u v x : Tmp} (h : fn.results = #[.tmp t, .tmp u, .tmp v, .tmp x]) (tmps : Array Value) (P : Program) (w : World) :
    (results fn tmps).run P w = .ok (.tuple #[tmps.getD t undef, tmps.getD u undef, tmps.getD v undef, tmps.getD x undef]) w := by simp [results, h]
def OutPost (nm : ByteArray) (n : Nat) (att : Nat → AttrT) (w : World) (e : Ending) (w' : World) : Prop :=
  ∃ v, e = .returned (.tuple #[.string nm, .bool true, v, .string ⟨#[]⟩]) ∧ w'.ownsRow w.heap.size 48 3 v n (outsV att n) ∧ Below w.heap.size w w'
theorem attsV_at (att : Nat → AttrT) (n k : Nat) (h : k < n) : (attsV att n)[k]? = some (attrV (att k)) := by
  unfold attsV
  rw [List.getElem?_map, List.getElem?_range h]; rfl

set_option maxRecDepth 100000 in
set_option maxHeartbeats 8000000 in
theorem attrLine_any (s nm : ByteArray) (F : List ByteArray) (att : Nat → AttrT) (allow : Bool) (w : World)
    (hs : s.size ≤ 5000) (h1 : 1 ≤ s.size) (hb0 : 33 ≤ bx s 0 ∧ bx s 0 ≠ 34 ∧ bx s 0 ≠ 35) (hbl : 33 ≤ bx s (s.size - 1))
    (hF : fieldsN (nb s) = (nm :: F).map nb) (hF1 : 1 ≤ F.length) (hlen : F.length ≤ 20) (hnms : nm.size ≤ 1000) (hnm : pre nm ⟨#[91, 97, 116, 116, 114, 93]⟩ = false)
    (hatt : ∀ i, i < F.length → ReadAs (F.getD i ⟨#[]⟩) (att i)) (hvn : ∀ i, i < F.length → vname (att i).1 = true) :
    Calls Tryd.prog 26 #[.string s, .slice none 0 0, .bool allow] w (OutPost nm F.length att w) := by
  have HP := fun W => parseLine_any s nm F att allow none 0 0 W hs h1 hb0 hbl hF hF1 hlen hnms hnm hatt hvn
  have HPP := Lib.hid HP
  clear HP hb0 hbl hF hnm hatt hvn
  obtain ⟨i0, hi, hz0, hz1, hz2⟩ := info_parts outInfo
  have HI := Lib.hid hi
  have happ : ∀ W : World, (Builtin.append_ #[23, 23] 23 #[.slice none 0 0, .slice none 0 0]).run Tryd.prog W = .ok (.slice none 0 0) W := fun _ => by kernel_rfl
  go_enter Tryd.func26, Tryd.ntmps26
  go_wp2_with fail
  generalize hFn : F.length = n at *
  have HFN := Lib.hid hFn
  have HP1 := Lib.hid (HPP.out w)
  with_reducible refine HP1.out.mono ?_
  rintro e W1 ⟨pb, v0, rfl, _, hown, hb1⟩
  have HB1 := Lib.hid hb1
  obtain ⟨g, cap, hv, _, _⟩ := hown.form (by omega)
  subst hv
  clear hb1 HP1 HPP happ
  go_upto_region 2 with (fail)
  have hr2 : Hid ((W1.alloc (.cells #[.string nm, .iface 152 (.pointer (some ⟨pb, 0, none⟩)), .slice (some ⟨g, 0, none⟩) n cap] 87)).heap[W1.heap.size]? = some (.cells #[.string nm, .iface 152 (.pointer (some ⟨pb, 0, none⟩)), .slice (some ⟨g, 0, none⟩) n cap] 87 (0, 0))) := Lib.hid (heap_new W1 _)
  have hb2 : Hid (Below W1.heap.size W1 (W1.alloc (.cells #[.string nm, .iface 152 (.pointer (some ⟨pb, 0, none⟩)), .slice (some ⟨g, 0, none⟩) n cap] 87))) := Lib.hid ((Below.refl _ _).alloc (Nat.le_refl _) _)
  generalize hmb : W1.heap.size = mb at *
  generalize W1.alloc (.cells #[.string nm, .iface 152 (.pointer (some ⟨pb, 0, none⟩)), .slice (some ⟨g, 0, none⟩) n cap] 87) = W2 at hr2 hb2 ⊢
  have HO2 : Hid (W2.ownsRow w.heap.size 92 1 (.slice (some ⟨g, 0, none⟩) n cap) n (attsV att n)) := Lib.hid (ownsRow_belowG hown (by rw [hmb]; exact hb2.out))
  have HB2 : Hid (Below w.heap.size w W2) := Lib.hid (HB1.out.trans (hb2.out.mono (by rw [← hmb]; exact HB1.out.size)))
  clear hown hmb hb2 HB1
  have m2 : W2.cell? ⟨mb, 2, none⟩ = some (.slice (some ⟨g, 0, none⟩) n cap) := by rw [Lib.cell_of_heap hr2.out]; rfl
  go_wp2
  clear m2
  go_loopw [8, 29] (fun l i wr => ∃ k : Nat, k ≤ n ∧ i = .int .i64 (k : Nat) ∧ wr.ownsRow W2.heap.size 48 3 l k (outsV att k) ∧ Below W2.heap.size W2 wr) (fun _ i _ => n - (intOf i).toNat)
  case atStart => exact ⟨0, Nat.zero_le _, rfl, World.ownsRow_nil _ _ _ _, Below.refl _ _⟩
  case round =>
    obtain ⟨k, hk, rfl, hown, hbel⟩ := hrel
    have HOWN := Lib.hid hown; have HBEL := Lib.hid hbel
    clear hown hbel
    by_cases hlt : k < n
    · have hltI : (k : Int) < n := by omega
      have hgl : g < W2.heap.size := (HO2.out.lt g rfl).2
      have hcell : wr.cell? ⟨g, 0 + k, none⟩ = some (attrV (att k)) := by
        rw [Nat.zero_add, HBEL.out.cell (p := ⟨g, k, none⟩) hgl, HO2.out.cellAt k (by omega)]
        exact attsV_at att n k hlt
      have hcell' : wr.cell? ⟨g, k, none⟩ = some (attrV (att k)) := by rw [← hcell, Nat.zero_add]
      unfold attrV at hcell hcell'
      have HSU := Lib.hid (outsV_succ att k)
      generalize hatk : att k = a at hcell hcell' HSU
      obtain ⟨a1, a2, a3⟩ := a
      dsimp only at hcell hcell'
      clear hatk
      go_wp2_with fail
      clear hcell hcell'
      with_reducible refine (attr_any a1 a2 a3 _).mono ?_
      rintro e W5 ⟨rfl, hb5⟩
      have HB5 : Hid (Below W2.heap.size W2 W5) := Lib.hid (HBEL.out.trans (hb5.mono HBEL.out.size))
      have HO5 : Hid (W5.ownsRow W2.heap.size 48 3 u8 k (outsV att k)) := Lib.hid (by
        refine ⟨HOWN.out.1, ?_⟩
        rcases HOWN.out.2 with hn | ⟨g, cap, cur, rfl, hbg, hgg, rest⟩
        · exact .inl hn
        · exact .inr ⟨g, cap, cur, rfl, hbg, by rw [hb5.block g (Array.getElem?_eq_some_iff.1 hgg).1]; exact hgg, rest⟩)
      clear hb5
      go_wp2_with (at_builtin; refine wpList_append_lies _ rfl (.tmp 33) (.tmp 36) 44 rfl W2.heap.size 48 i0 (.agg #[.string ⟨#[]⟩, .string ⟨#[]⟩, .int .i64 0]) 3 40 outsKind HI.out hz0 hz1 hz2 rfl (by decide) _ k _ rfl (World.ownsRow.alloc HO5.out _) ⟨W5.heap.size, 0, none⟩ 1 1 (out3 (a1, a2, a3)) rfl rfl (news_out _ _) (one_out _) (by decide) ?c3 ?c4 ?c5 _ rfl ?_)
      case c3 => unfold maxLen; omega
      case c4 => omega
      case c5 => have := HB5.out.size; first | omega | (rw [heap_new_size]; omega)
      intro gg cap2 w6 hown6 hgrow6 _ _
      have R : Hid (w6.ownsRow W2.heap.size 48 3 (.slice (some ⟨gg, 0, none⟩) (k + 1) cap2) (k + 1) (outsV att (k + 1))) := Lib.hid (by rw [HSU.out]; exact hown6)
      have RB : Hid (Below W2.heap.size W2 w6) := Lib.hid ((HB5.out.alloc HB5.out.size _).grown hgrow6 (by have := HB5.out.size; rw [heap_new_size]; omega) (fun q e => (HO5.out.lt q e).1))
      clear hown6 hgrow6
      go_wp2
      go_roundw
      case rel => exact ⟨k + 1, by omega, by go_num, R.out, RB.out⟩
      case measure => simp [intOf]; omega
    · obtain rfl : k = n := by omega
      have hr3 : Hid (wr.heap[mb]? = some (.cells #[.string nm, .iface 152 (.pointer (some ⟨pb, 0, none⟩)), .slice (some ⟨g, 0, none⟩) k cap] 87 (0, 0))) := Lib.hid ((HBEL.out.block mb (lt_of_block' hr2.out)).trans hr2.out)
      have m0 : wr.cell? ⟨mb, 0, none⟩ = some (.string nm) := by rw [Lib.cell_of_heap hr3.out]; rfl
      have m1 : wr.cell? ⟨mb, 1, none⟩ = some (.iface 152 (.pointer (some ⟨pb, 0, none⟩))) := by rw [Lib.cell_of_heap hr3.out]; rfl
      have HBF : Hid (Below w.heap.size w wr) := Lib.hid (HB2.out.trans (HBEL.out.mono HB2.out.size))
      go_wp2
      go_quiet (fail)
      go_wp2
      refine bodyPost_ret (results_tmp4 rfl _ _ _) rfl ?_
      refine ⟨_, rfl, ?_, below_drewN HBF.out _⟩
      refine ⟨HOWN.out.1, ?_⟩
      rcases HOWN.out.2 with hn | ⟨g, cap, cur, hv, hbg, rest⟩
      · exact .inl hn
      · exact .inr ⟨g, cap, cur, hv, Nat.le_trans HB2.out.size hbg, rest⟩
end Go.Proofs.YteipeagdflcjjaaDoor
