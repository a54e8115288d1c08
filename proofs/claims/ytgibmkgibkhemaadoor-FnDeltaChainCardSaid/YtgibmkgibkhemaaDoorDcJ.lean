/- hashBlock. -/
import Derived.Test.YtgibmkgibkhemaaDoorDcI
namespace Go.Proofs.YtgibmkgibkhemaaDoor
open Go.RowKit
set_option linter.unusedSimpArgs false
set_option linter.unusedVariables false

theorem and255 (x : Nat) (h : x < 256) : bits .and .u32 (x : Int) 255 = (x : Int) := by
  have h1 := u32_and_nat x 255 (by omega) (by decide)
  rw [Nat.and_two_pow_sub_one_eq_mod x 8, Nat.mod_eq_of_lt (by omega)] at h1
  exact h1
theorem or4 (a b c d : Nat) (ha : a < 256) (hb : b < 256) (hc : c < 256) (hd : d < 256) :
    ∃ h : Nat, bits .or .u32 (bits .or .u32 (bits .or .u32 ((a : Int) * 16777216) ((b : Int) * 65536)) ((c : Int) * 256)) (d : Int) = (h : Int) ∧ h < 4294967296 := by
  have e1 : (a : Int) * 16777216 = ((a * 16777216 : Nat) : Int) := by omega
  have e2 : (b : Int) * 65536 = ((b * 65536 : Nat) : Int) := by omega
  have e3 : (c : Int) * 256 = ((c * 256 : Nat) : Int) := by omega
  rw [e1, e2, e3]
  have l1 : a * 16777216 ||| b * 65536 < 2 ^ 32 := Nat.or_lt_two_pow (by omega) (by omega)
  have l2 : (a * 16777216 ||| b * 65536) ||| c * 256 < 2 ^ 32 := Nat.or_lt_two_pow l1 (by omega)
  have l3 : ((a * 16777216 ||| b * 65536) ||| c * 256) ||| d < 2 ^ 32 := Nat.or_lt_two_pow l2 (by omega)
  rw [u32_or_nat _ _ (by omega) (by omega), u32_or_nat _ _ l1 (by omega), u32_or_nat _ _ l2 (by omega)]
  exact ⟨_, rfl, l3⟩
theorem hash_step2 (h x : Nat) (hh : h < 2147483648) (hx : x < 256) :
    ∃ z : Nat, bits .xor .u32 (bits .or .u32 ((h : Int) * 256 % 4294967296) (x : Int)) ((tL.getD (h / 8388608) 0 : Nat) : Int) = (z : Int) ∧ z < 2147483648 := by
  have e1 : IntKind.u32.wrap ((h : Int) * 2 ^ 8) = (h : Int) * 256 % 4294967296 := by rw [IntKind.wrap_u32]; rfl
  have := hash_step h x hh hx
  rwa [e1] at this
def HashPost (w : World) (e : Ending) (w' : World) : Prop := ∃ h : Nat, e = .returned (.int .i64 h) ∧ h < 2147483648 ∧ Below w.heap.size w w'
set_option maxRecDepth 100000 in
set_option maxHeartbeats 8000000 in
theorem hashBlock_any (rb n c i : Nat) (x : Nat → Nat) (w : World) (hx : ∀ j, x j < 256) (hi : i + 16 ≤ n) (hn : n ≤ 1000) (hb : rb < w.heap.size) (hcell : ∀ j, j < 16 → w.cell? ⟨rb, i + j, none⟩ = some (.int .u8 (x j : Nat))) :
    Calls Tryd.prog 53 #[.slice (some ⟨rb, 0, none⟩) n c, .int .i64 i] w (HashPost w) := by
  have HC := Lib.hid hcell; have HX := Lib.hid hx; have HBL := Lib.hid hb
  clear hcell hx hb
  have i1 : ∀ j : Nat, j < 16 → (i : Int) + j < n := fun j hj => by omega
  have x0 := HX.out 0; have x1 := HX.out 1; have x2 := HX.out 2; have x3 := HX.out 3
  have a0 := and255 (x 0) x0; have a1 := and255 (x 1) x1; have a2 := and255 (x 2) x2; have a3 := and255 (x 3) x3
  have c0 : w.cell? ⟨rb, i, none⟩ = some (.int .u8 (x 0 : Nat)) := HC.out 0 (by decide)
  have c1 := HC.out 1 (by decide); have c2 := HC.out 2 (by decide); have c3 := HC.out 3 (by decide)
  have p0 : (i : Int) < n := by omega
  have p1 : (i : Int) + 1 < n := by omega
  have p2 : (i : Int) + 2 < n := by omega
  have p3 : (i : Int) + 3 < n := by omega
  generalize x 0 = y0 at x0 a0 c0
  generalize x 1 = y1 at x1 a1 c1
  generalize x 2 = y2 at x2 a2 c2
  generalize x 3 = y3 at x3 a3 c3
  go_enter Tryd.func53, Tryd.ntmps53
  go_upto_region 1 with (fail)
  go_quiet (fail)
  go_upto_region 2 with (fail)
  obtain ⟨h0, e0, hh0⟩ := or4 y0 y1 y2 y3 x0 x1 x2 x3
  rw [e0]
  clear c0 c1 c2 c3 p0 p1 p2 p3 a0 a1 a2 a3 e0
  have hB0 : Hid (Below w.heap.size w (w.drewN nq)) := Lib.hid (below_drewN (Below.refl _ _) _)
  generalize w.drewN nq = W0 at hB0 ⊢
  go_wp2_with fail
  with_reducible refine (zzT_any W0).mono ?_
  rintro e w1 ⟨rfl, hb1⟩
  have HB1 : Hid (Below w.heap.size w w1) := Lib.hid (hB0.out.trans (hb1.mono hB0.out.size))
  clear hb1 hB0
  go_upto_region 3 with (refine wpList_store_row rfl 130 (.tmp 6) (.tmp 40) rfl w1.heap.size tArr rfl rfl 130 _ (heap_new _ _) (by kernel_rfl) (by kernel_rfl) tArr_one ?_)
  have hrow := setRow_heap (w1.alloc (Obj.cells Tryd.zeroCells130 130)) w1.heap.size _ tArr _ _ (heap_new _ _)
  have hB2 : Hid (Below w.heap.size w ((w1.alloc (Obj.cells Tryd.zeroCells130 130)).setRow w1.heap.size tArr)) := Lib.hid (below_setRow2 (HB1.out.alloc HB1.out.size _) HB1.out.size _)
  generalize (w1.alloc _).setRow w1.heap.size tArr = V at hrow hB2 ⊢
  generalize w1.heap.size = tb at hrow ⊢
  have HT : Hid (∀ k, k < 256 → V.cell? ⟨tb, k, none⟩ = some (.int .u32 (tL.getD k 0 : Nat))) := Lib.hid (fun k hk => by rw [Lib.cell_of_heap hrow]; exact tArr_at k hk)
  have HV : Hid (∀ j, j < 16 → V.cell? ⟨rb, i + j, none⟩ = some (.int .u8 (x j : Nat))) := Lib.hid (fun j hj => (hB2.out.cell (p := ⟨rb, i + j, none⟩) HBL.out).trans (HC.out j hj))
  clear hrow HB1
  have ct := HT.out (h0 / 2147483648) (by omega)
  have hk0 : h0 / 2147483648 < 256 := by omega
  obtain ⟨z0, e0, hz0⟩ := hash_first h0 hh0
  generalize tL.getD (h0 / 2147483648) 0 = tv at ct e0
  go_upto_region 4 with (fail)
  clear ct hk0 e0 hh0
  have ct := HT.out (z0 / 8388608) (by omega)
  have hk0 : z0 / 8388608 < 256 := by omega
  have cx := HV.out 4 (by decide)
  have px : (i : Int) + 4 < n := by omega
  have hxx := HX.out 4
  generalize x 4 = y at cx hxx
  have ax := and255 y hxx
  obtain ⟨z1, e0, hz1⟩ := hash_step2 z0 y hz0 hxx
  generalize tL.getD (z0 / 8388608) 0 = tv at ct e0
  go_quiet (fail)
  go_upto_region 5 with (fail)
  try rw [e0]
  clear ct hk0 cx px hxx ax e0 hz0
  have hBn : Hid (Below w.heap.size w (V.drewN nq)) := Lib.hid (below_drewN hB2.out _)
  have HTn : Hid (∀ k, k < 256 → (V.drewN nq).cell? ⟨tb, k, none⟩ = some (.int .u32 (tL.getD k 0 : Nat))) := Lib.hid HT.out
  have HVn : Hid (∀ j, j < 16 → (V.drewN nq).cell? ⟨rb, i + j, none⟩ = some (.int .u8 (x j : Nat))) := Lib.hid HV.out
  clear HT HV hB2
  generalize V.drewN nq = V at hBn HTn HVn ⊢
  have HT := HTn; have HV := HVn; have hB2 := hBn
  clear HTn HVn hBn
  have ct := HT.out (z1 / 8388608) (by omega)
  have hk0 : z1 / 8388608 < 256 := by omega
  have cx := HV.out 5 (by decide)
  have px : (i : Int) + 5 < n := by omega
  have hxx := HX.out 5
  generalize x 5 = y at cx hxx
  have ax := and255 y hxx
  obtain ⟨z2, e0, hz2⟩ := hash_step2 z1 y hz1 hxx
  generalize tL.getD (z1 / 8388608) 0 = tv at ct e0
  go_quiet (fail)
  go_upto_region 6 with (fail)
  try rw [e0]
  clear ct hk0 cx px hxx ax e0 hz1
  have hBn : Hid (Below w.heap.size w (V.drewN nq)) := Lib.hid (below_drewN hB2.out _)
  have HTn : Hid (∀ k, k < 256 → (V.drewN nq).cell? ⟨tb, k, none⟩ = some (.int .u32 (tL.getD k 0 : Nat))) := Lib.hid HT.out
  have HVn : Hid (∀ j, j < 16 → (V.drewN nq).cell? ⟨rb, i + j, none⟩ = some (.int .u8 (x j : Nat))) := Lib.hid HV.out
  clear HT HV hB2
  generalize V.drewN nq = V at hBn HTn HVn ⊢
  have HT := HTn; have HV := HVn; have hB2 := hBn
  clear HTn HVn hBn
  have ct := HT.out (z2 / 8388608) (by omega)
  have hk0 : z2 / 8388608 < 256 := by omega
  have cx := HV.out 6 (by decide)
  have px : (i : Int) + 6 < n := by omega
  have hxx := HX.out 6
  generalize x 6 = y at cx hxx
  have ax := and255 y hxx
  obtain ⟨z3, e0, hz3⟩ := hash_step2 z2 y hz2 hxx
  generalize tL.getD (z2 / 8388608) 0 = tv at ct e0
  go_quiet (fail)
  go_upto_region 7 with (fail)
  try rw [e0]
  clear ct hk0 cx px hxx ax e0 hz2
  have hBn : Hid (Below w.heap.size w (V.drewN nq)) := Lib.hid (below_drewN hB2.out _)
  have HTn : Hid (∀ k, k < 256 → (V.drewN nq).cell? ⟨tb, k, none⟩ = some (.int .u32 (tL.getD k 0 : Nat))) := Lib.hid HT.out
  have HVn : Hid (∀ j, j < 16 → (V.drewN nq).cell? ⟨rb, i + j, none⟩ = some (.int .u8 (x j : Nat))) := Lib.hid HV.out
  clear HT HV hB2
  generalize V.drewN nq = V at hBn HTn HVn ⊢
  have HT := HTn; have HV := HVn; have hB2 := hBn
  clear HTn HVn hBn
  have ct := HT.out (z3 / 8388608) (by omega)
  have hk0 : z3 / 8388608 < 256 := by omega
  have cx := HV.out 7 (by decide)
  have px : (i : Int) + 7 < n := by omega
  have hxx := HX.out 7
  generalize x 7 = y at cx hxx
  have ax := and255 y hxx
  obtain ⟨z4, e0, hz4⟩ := hash_step2 z3 y hz3 hxx
  generalize tL.getD (z3 / 8388608) 0 = tv at ct e0
  go_quiet (fail)
  go_upto_region 8 with (fail)
  try rw [e0]
  clear ct hk0 cx px hxx ax e0 hz3
  have hBn : Hid (Below w.heap.size w (V.drewN nq)) := Lib.hid (below_drewN hB2.out _)
  have HTn : Hid (∀ k, k < 256 → (V.drewN nq).cell? ⟨tb, k, none⟩ = some (.int .u32 (tL.getD k 0 : Nat))) := Lib.hid HT.out
  have HVn : Hid (∀ j, j < 16 → (V.drewN nq).cell? ⟨rb, i + j, none⟩ = some (.int .u8 (x j : Nat))) := Lib.hid HV.out
  clear HT HV hB2
  generalize V.drewN nq = V at hBn HTn HVn ⊢
  have HT := HTn; have HV := HVn; have hB2 := hBn
  clear HTn HVn hBn
  have ct := HT.out (z4 / 8388608) (by omega)
  have hk0 : z4 / 8388608 < 256 := by omega
  have cx := HV.out 8 (by decide)
  have px : (i : Int) + 8 < n := by omega
  have hxx := HX.out 8
  generalize x 8 = y at cx hxx
  have ax := and255 y hxx
  obtain ⟨z5, e0, hz5⟩ := hash_step2 z4 y hz4 hxx
  generalize tL.getD (z4 / 8388608) 0 = tv at ct e0
  go_quiet (fail)
  go_upto_region 9 with (fail)
  try rw [e0]
  clear ct hk0 cx px hxx ax e0 hz4
  have hBn : Hid (Below w.heap.size w (V.drewN nq)) := Lib.hid (below_drewN hB2.out _)
  have HTn : Hid (∀ k, k < 256 → (V.drewN nq).cell? ⟨tb, k, none⟩ = some (.int .u32 (tL.getD k 0 : Nat))) := Lib.hid HT.out
  have HVn : Hid (∀ j, j < 16 → (V.drewN nq).cell? ⟨rb, i + j, none⟩ = some (.int .u8 (x j : Nat))) := Lib.hid HV.out
  clear HT HV hB2
  generalize V.drewN nq = V at hBn HTn HVn ⊢
  have HT := HTn; have HV := HVn; have hB2 := hBn
  clear HTn HVn hBn
  have ct := HT.out (z5 / 8388608) (by omega)
  have hk0 : z5 / 8388608 < 256 := by omega
  have cx := HV.out 9 (by decide)
  have px : (i : Int) + 9 < n := by omega
  have hxx := HX.out 9
  generalize x 9 = y at cx hxx
  have ax := and255 y hxx
  obtain ⟨z6, e0, hz6⟩ := hash_step2 z5 y hz5 hxx
  generalize tL.getD (z5 / 8388608) 0 = tv at ct e0
  go_quiet (fail)
  go_upto_region 10 with (fail)
  try rw [e0]
  clear ct hk0 cx px hxx ax e0 hz5
  have hBn : Hid (Below w.heap.size w (V.drewN nq)) := Lib.hid (below_drewN hB2.out _)
  have HTn : Hid (∀ k, k < 256 → (V.drewN nq).cell? ⟨tb, k, none⟩ = some (.int .u32 (tL.getD k 0 : Nat))) := Lib.hid HT.out
  have HVn : Hid (∀ j, j < 16 → (V.drewN nq).cell? ⟨rb, i + j, none⟩ = some (.int .u8 (x j : Nat))) := Lib.hid HV.out
  clear HT HV hB2
  generalize V.drewN nq = V at hBn HTn HVn ⊢
  have HT := HTn; have HV := HVn; have hB2 := hBn
  clear HTn HVn hBn
  have ct := HT.out (z6 / 8388608) (by omega)
  have hk0 : z6 / 8388608 < 256 := by omega
  have cx := HV.out 10 (by decide)
  have px : (i : Int) + 10 < n := by omega
  have hxx := HX.out 10
  generalize x 10 = y at cx hxx
  have ax := and255 y hxx
  obtain ⟨z7, e0, hz7⟩ := hash_step2 z6 y hz6 hxx
  generalize tL.getD (z6 / 8388608) 0 = tv at ct e0
  go_quiet (fail)
  go_upto_region 11 with (fail)
  try rw [e0]
  clear ct hk0 cx px hxx ax e0 hz6
  have hBn : Hid (Below w.heap.size w (V.drewN nq)) := Lib.hid (below_drewN hB2.out _)
  have HTn : Hid (∀ k, k < 256 → (V.drewN nq).cell? ⟨tb, k, none⟩ = some (.int .u32 (tL.getD k 0 : Nat))) := Lib.hid HT.out
  have HVn : Hid (∀ j, j < 16 → (V.drewN nq).cell? ⟨rb, i + j, none⟩ = some (.int .u8 (x j : Nat))) := Lib.hid HV.out
  clear HT HV hB2
  generalize V.drewN nq = V at hBn HTn HVn ⊢
  have HT := HTn; have HV := HVn; have hB2 := hBn
  clear HTn HVn hBn
  have ct := HT.out (z7 / 8388608) (by omega)
  have hk0 : z7 / 8388608 < 256 := by omega
  have cx := HV.out 11 (by decide)
  have px : (i : Int) + 11 < n := by omega
  have hxx := HX.out 11
  generalize x 11 = y at cx hxx
  have ax := and255 y hxx
  obtain ⟨z8, e0, hz8⟩ := hash_step2 z7 y hz7 hxx
  generalize tL.getD (z7 / 8388608) 0 = tv at ct e0
  go_quiet (fail)
  go_upto_region 12 with (fail)
  try rw [e0]
  clear ct hk0 cx px hxx ax e0 hz7
  have hBn : Hid (Below w.heap.size w (V.drewN nq)) := Lib.hid (below_drewN hB2.out _)
  have HTn : Hid (∀ k, k < 256 → (V.drewN nq).cell? ⟨tb, k, none⟩ = some (.int .u32 (tL.getD k 0 : Nat))) := Lib.hid HT.out
  have HVn : Hid (∀ j, j < 16 → (V.drewN nq).cell? ⟨rb, i + j, none⟩ = some (.int .u8 (x j : Nat))) := Lib.hid HV.out
  clear HT HV hB2
  generalize V.drewN nq = V at hBn HTn HVn ⊢
  have HT := HTn; have HV := HVn; have hB2 := hBn
  clear HTn HVn hBn
  have ct := HT.out (z8 / 8388608) (by omega)
  have hk0 : z8 / 8388608 < 256 := by omega
  have cx := HV.out 12 (by decide)
  have px : (i : Int) + 12 < n := by omega
  have hxx := HX.out 12
  generalize x 12 = y at cx hxx
  have ax := and255 y hxx
  obtain ⟨z9, e0, hz9⟩ := hash_step2 z8 y hz8 hxx
  generalize tL.getD (z8 / 8388608) 0 = tv at ct e0
  go_quiet (fail)
  go_upto_region 13 with (fail)
  try rw [e0]
  clear ct hk0 cx px hxx ax e0 hz8
  have hBn : Hid (Below w.heap.size w (V.drewN nq)) := Lib.hid (below_drewN hB2.out _)
  have HTn : Hid (∀ k, k < 256 → (V.drewN nq).cell? ⟨tb, k, none⟩ = some (.int .u32 (tL.getD k 0 : Nat))) := Lib.hid HT.out
  have HVn : Hid (∀ j, j < 16 → (V.drewN nq).cell? ⟨rb, i + j, none⟩ = some (.int .u8 (x j : Nat))) := Lib.hid HV.out
  clear HT HV hB2
  generalize V.drewN nq = V at hBn HTn HVn ⊢
  have HT := HTn; have HV := HVn; have hB2 := hBn
  clear HTn HVn hBn
  have ct := HT.out (z9 / 8388608) (by omega)
  have hk0 : z9 / 8388608 < 256 := by omega
  have cx := HV.out 13 (by decide)
  have px : (i : Int) + 13 < n := by omega
  have hxx := HX.out 13
  generalize x 13 = y at cx hxx
  have ax := and255 y hxx
  obtain ⟨z10, e0, hz10⟩ := hash_step2 z9 y hz9 hxx
  generalize tL.getD (z9 / 8388608) 0 = tv at ct e0
  go_quiet (fail)
  go_upto_region 14 with (fail)
  try rw [e0]
  clear ct hk0 cx px hxx ax e0 hz9
  have hBn : Hid (Below w.heap.size w (V.drewN nq)) := Lib.hid (below_drewN hB2.out _)
  have HTn : Hid (∀ k, k < 256 → (V.drewN nq).cell? ⟨tb, k, none⟩ = some (.int .u32 (tL.getD k 0 : Nat))) := Lib.hid HT.out
  have HVn : Hid (∀ j, j < 16 → (V.drewN nq).cell? ⟨rb, i + j, none⟩ = some (.int .u8 (x j : Nat))) := Lib.hid HV.out
  clear HT HV hB2
  generalize V.drewN nq = V at hBn HTn HVn ⊢
  have HT := HTn; have HV := HVn; have hB2 := hBn
  clear HTn HVn hBn
  have ct := HT.out (z10 / 8388608) (by omega)
  have hk0 : z10 / 8388608 < 256 := by omega
  have cx := HV.out 14 (by decide)
  have px : (i : Int) + 14 < n := by omega
  have hxx := HX.out 14
  generalize x 14 = y at cx hxx
  have ax := and255 y hxx
  obtain ⟨z11, e0, hz11⟩ := hash_step2 z10 y hz10 hxx
  generalize tL.getD (z10 / 8388608) 0 = tv at ct e0
  go_quiet (fail)
  go_upto_region 15 with (fail)
  try rw [e0]
  clear ct hk0 cx px hxx ax e0 hz10
  have hBn : Hid (Below w.heap.size w (V.drewN nq)) := Lib.hid (below_drewN hB2.out _)
  have HTn : Hid (∀ k, k < 256 → (V.drewN nq).cell? ⟨tb, k, none⟩ = some (.int .u32 (tL.getD k 0 : Nat))) := Lib.hid HT.out
  have HVn : Hid (∀ j, j < 16 → (V.drewN nq).cell? ⟨rb, i + j, none⟩ = some (.int .u8 (x j : Nat))) := Lib.hid HV.out
  clear HT HV hB2
  generalize V.drewN nq = V at hBn HTn HVn ⊢
  have HT := HTn; have HV := HVn; have hB2 := hBn
  clear HTn HVn hBn
  have ct := HT.out (z11 / 8388608) (by omega)
  have hk0 : z11 / 8388608 < 256 := by omega
  have cx := HV.out 15 (by decide)
  have px : (i : Int) + 15 < n := by omega
  have hxx := HX.out 15
  generalize x 15 = y at cx hxx
  have ax := and255 y hxx
  obtain ⟨z12, e0, hz12⟩ := hash_step2 z11 y hz11 hxx
  generalize tL.getD (z11 / 8388608) 0 = tv at ct e0
  go_quiet (fail)
  go_upto_region 16 with (fail)
  try rw [e0]
  clear ct hk0 cx px hxx ax e0 hz11
  have hBn : Hid (Below w.heap.size w (V.drewN nq)) := Lib.hid (below_drewN hB2.out _)
  have HTn : Hid (∀ k, k < 256 → (V.drewN nq).cell? ⟨tb, k, none⟩ = some (.int .u32 (tL.getD k 0 : Nat))) := Lib.hid HT.out
  have HVn : Hid (∀ j, j < 16 → (V.drewN nq).cell? ⟨rb, i + j, none⟩ = some (.int .u8 (x j : Nat))) := Lib.hid HV.out
  clear HT HV hB2
  generalize V.drewN nq = V at hBn HTn HVn ⊢
  have HT := HTn; have HV := HVn; have hB2 := hBn
  clear HTn HVn hBn
  go_wp2
  go_ret
  exact ⟨z12, rfl, hz12, hB2.out⟩
end Go.Proofs.YtgibmkgibkhemaaDoor
