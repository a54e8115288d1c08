/- decodeOffset, decodeSize at any command. -/
import Derived.Test.YtgibmkgibkhemaaDoorDecOff
import Derived.Test.YtgibmkgibkhemaaDoorDcA
namespace Go.Proofs.YtgibmkgibkhemaaDoor
open Go.RowKit
set_option linter.unusedSimpArgs false
set_option linter.unusedVariables false

/-- What is left of a row of bytes: n of them, from place o on (of an empty rest the place is not told). -/
def Sl (b o n : Nat) (v : Value) : Prop := ∃ o' C : Nat, v = .slice (some ⟨b, o', none⟩) n C ∧ n ≤ C ∧ C ≤ 9223372036854775807 ∧ (n ≠ 0 → o' = o)
def posP (p : Nat → Bool) : Nat → Nat
  | 0 => 0
  | k + 1 => posP p k + (if p k = true then 1 else 0)
def valP (p : Nat → Bool) (g : Nat → Nat) : Nat → Nat
  | 0 => 0
  | k + 1 => valP p g k + (if p k = true then g (posP p k) * 256 ^ k else 0)
theorem valP_lt (p : Nat → Bool) (g : Nat → Nat) (k : Nat) (h : ∀ j, j < k → p j = true → g (posP p j) < 256) : valP p g k < 256 ^ k := by
  induction k with
  | zero => show 0 < 1; decide
  | succ k ih =>
    have h1 := ih (fun j hj => h j (by omega))
    show valP p g k + (if p k = true then g (posP p k) * 256 ^ k else 0) < 256 ^ (k + 1)
    rw [Nat.pow_succ]
    split
    · have h2 : g (posP p k) ≤ 255 := by have := h k (by omega) (by assumption); omega
      have h3 := Nat.mul_le_mul_right (256 ^ k) h2
      omega
    · omega
theorem or8 (N y k : Nat) (hN : N < 256 ^ k) (hy : y < 256) (hk : k ≤ 3) : bits .or .u64 (N : Int) ((y * 256 ^ k : Nat) : Int) = ((N + y * 256 ^ k : Nat) : Int) := by
  have e : (256 : Nat) ^ k = 2 ^ (8 * k) := Nat.pow_mul 2 8 k ▸ rfl
  have h2 : (256 : Nat) ^ k ≤ 256 ^ 3 := Nat.pow_le_pow_right (by decide) hk
  have h3 : y * 256 ^ k ≤ 255 * 256 ^ 3 := Nat.mul_le_mul (by omega) h2
  have h5 : (y * 256 ^ k : Nat) < 18446744073709551616 := Nat.lt_of_le_of_lt h3 (by decide)
  have h6 : N < 18446744073709551616 := Nat.lt_of_lt_of_le (Nat.lt_of_lt_of_le hN h2) (by decide)
  rw [u64_or_nat N (y * 256 ^ k) h6 h5]
  congr 1
  rw [Nat.or_comm, Nat.mul_comm y, e]
  rw [e] at hN
  rw [← Nat.two_pow_add_eq_or_of_lt hN y, Nat.add_comm]
def CmdAny (z b o n : Nat) (w : World) (e : Ending) (w' : World) : Prop :=
  ∃ v, e = .returned (.tuple #[.int .u64 (z : Nat), v, .nilIface]) ∧ Sl b o n v ∧ Below w.heap.size w w'

set_option maxRecDepth 100000 in
set_option maxHeartbeats 8000000 in
theorem decodeOff_any (x b off n : Nat) (d0 : Value) (p : Nat → Bool) (g : Nat → Nat) (w : World) (hd0 : Sl b off n d0) (hn : n ≤ 100000) (hb : b < w.heap.size) (hp : posP p 4 ≤ n)
    (hbits : bits .and .u8 (x : Int) 1 = (if p 0 = true then 1 else 0) ∧ bits .and .u8 (x : Int) 2 = (if p 1 = true then 2 else 0) ∧ bits .and .u8 (x : Int) 4 = (if p 2 = true then 4 else 0) ∧ bits .and .u8 (x : Int) 8 = (if p 3 = true then 8 else 0))
    (hg : ∀ i, i < n → g i < 256) (hcell : ∀ i, i < n → w.cell? ⟨b, off + i, none⟩ = some (.int .u8 (g i : Nat))) :
    Calls Tryd.prog 31 #[.int .u8 (x : Nat), d0] w (CmdAny (valP p g 4) b (off + posP p 4) (n - posP p 4) w) := by
  have HBITS := Lib.hid hbits
  have HG := Lib.hid hg
  have HC := Lib.hid hcell
  have HBL := Lib.hid hb
  have HD := Lib.hid hd0
  have hstep : Hid (∀ k, k < 4 → posP p (k + 1) ≤ n) := Lib.hid (fun k hk => by
    have hm : ∀ j, posP p j ≤ posP p (j + 1) := fun j => by show posP p j ≤ posP p j + _; omega
    have hm2 : ∀ i j, posP p i ≤ posP p (i + j) := by
      intro i j
      induction j with
      | zero => exact Nat.le_refl _
      | succ j ih => exact Nat.le_trans ih (hm (i + j))
    have := hm2 (k + 1) (4 - (k + 1))
    rw [show k + 1 + (4 - (k + 1)) = 4 by omega] at this
    omega)
  clear hbits hg hcell hb hd0 hp
  go_enter Tryd.func31, Tryd.ntmps31
  go_wp2_with fail
  with_reducible refine (offsets_any _).mono ?_
  rintro e w1 ⟨rfl, hb1⟩
  have HB := Lib.hid hb1; clear hb1
  have o0 := oidx0; have o1 := oidx1; have o2 := oidx2; have o3 := oidx3
  go_wp2
  go_loopw [1, 7, 11] (fun d m i wr => ∃ k : Nat, k ≤ 4 ∧ i = .int .i64 k ∧ Below w.heap.size w wr ∧ Sl b (off + posP p k) (n - posP p k) d ∧ m = .int .u64 (valP p g k : Nat)) (fun _ _ i _ => 4 - (intOf i).toNat)
  case atStart => exact ⟨0, by omega, rfl, HB.out, HD.out, rfl⟩
  case round =>
    obtain ⟨k, hk, rfl, hbel, hsl, rfl⟩ := hrel
    have HB2 := Lib.hid hbel; clear hbel
    have HSL := Lib.hid hsl; clear hsl
    generalize hN : valP p g k = N
    have HN := Lib.hid hN; clear hN
    have hk' : k = 0 ∨ k = 1 ∨ k = 2 ∨ k = 3 ∨ k = 4 := by omega
    rcases hk' with rfl | rfl | rfl | rfl | rfl
    · go_upto_region 5 with (fail)
      have hv0 : (wr.alloc (.cells #[.int .u8 1, .int .u64 0] 111)).cell? ⟨wr.heap.size, 0, none⟩ = some (.int .u8 1) := World.cell?_alloc_mark wr _ 111 (0, 0) 0
      have hv1 : (wr.alloc (.cells #[.int .u8 1, .int .u64 0] 111)).cell? ⟨wr.heap.size, 1, none⟩ = some (.int .u64 0) := World.cell?_alloc_mark wr _ 111 (0, 0) 1
      have HBV : Hid (Below w.heap.size w (wr.alloc (.cells #[.int .u8 1, .int .u64 0] 111))) := Lib.hid (HB2.out.alloc HB2.out.size _)
      generalize wr.alloc _ = V at hv0 hv1 HBV ⊢
      clear o0 o1 o2 o3
      have ha := HBITS.out.1
      by_cases hpk : p 0 = true
      · rw [if_pos hpk] at ha
        have hpos : Hid (posP p (0 + 1) = posP p 0 + 1) := Lib.hid (by show posP p 0 + _ = _; rw [if_pos hpk])
        have hval : Hid (valP p g (0 + 1) = N + g (posP p 0)) := Lib.hid (by show valP p g 0 + _ = _; rw [if_pos hpk, HN.out]; simp)
        have hle : posP p 0 + 1 ≤ n := by have := hstep.out 0 (by decide); rw [hpos.out] at this; exact this
        have hNl : N < 256 ^ 0 := by
          rw [← HN.out]
          refine valP_lt p g 0 (fun j hj hpj => HG.out _ ?_)
          have h1 := hstep.out j (by omega)
          have h2 : posP p (j + 1) = posP p j + 1 := by show posP p j + _ = _; rw [if_pos hpj]
          omega
        have hcv : V.cell? ⟨b, off + posP p 0, none⟩ = some (.int .u8 (g (posP p 0) : Nat)) := (HBV.out.cell (p := ⟨b, off + posP p 0, none⟩) HBL.out).trans (HC.out _ (by omega))
        have hy := HG.out (posP p 0) (by omega)
        obtain ⟨o', C, rfl, hnC, hCm, ho⟩ := HSL.out
        obtain ⟨Q, hQ⟩ : ∃ Q, Q = off + posP p 0 := ⟨_, rfl⟩
        rw [← hQ] at hcv
        have hoq : Q = o' := hQ.trans (ho (by omega)).symm
        subst hoq
        have HQ := Lib.hid hQ; clear hQ ho HSL
        generalize hgy : g (posP p 0) = y at hcv hval hy
        clear hgy
        have s1 : IntKind.u64.wrap ((y : Int) * 2 ^ 0) = (y : Int) := by rw [IntKind.wrap_u64]; omega
        have r1 : bits .or .u64 (N : Int) ((y : Int)) = (N : Int) + (y : Int) := by have h := or8 N y 0 hNl hy (by decide); simpa using h
        generalize hnq : n - posP p 0 = r at hnC ⊢
        have hr1 : 1 ≤ r := by omega
        have HNQ := Lib.hid hnq; clear hnq
        have hn0i : ((r : Int) == 0) = false := beq_eq_false_iff_ne.mpr (by omega)
        have hni : (0 : Int) < (r : Int) := by omega
        have hr1i : (1 : Int) ≤ (r : Int) := by omega
        have hC1i : (1 : Int) ≤ (C : Int) := by omega
        have HSL2 : Hid (∀ v, (C - 1 = 0 → v = .slice (some ⟨b, Q, none⟩) (r - 1) 0) → (C - 1 ≠ 0 → v = .slice (some ⟨b, Q + 1, none⟩) (r - 1) (C - 1)) → Sl b (off + posP p (0 + 1)) (n - posP p (0 + 1)) v) := Lib.hid (by
          intro v h1 h2
          rw [hpos.out, show n - (posP p 0 + 1) = r - 1 by have := HNQ.out; omega]
          by_cases hC : C - 1 = 0
          · exact ⟨Q, 0, h1 hC, by omega, by omega, fun h => by omega⟩
          · exact ⟨Q + 1, C - 1, h2 hC, by omega, by omega, fun _ => by have := HQ.out; omega⟩)
        go_upto_region 8 with (fail)
        by_cases hC : C - 1 = 0
        · go_quiet (fail)
          go_wp2
          go_roundw
          case rel => exact ⟨0 + 1, by omega, by first | rfl | go_num, below_drewN HBV.out _, HSL2.out _ (fun _ => by first | rfl | (rw [hC])) (fun h => absurd hC h), by rw [hval.out]; rfl⟩
          case measure => simp [intOf]
        · go_quiet (fail)
          go_wp2
          go_roundw
          case rel => exact ⟨0 + 1, by omega, by first | rfl | go_num, below_drewN HBV.out _, HSL2.out _ (fun h => absurd h hC) (fun _ => rfl), by rw [hval.out]; rfl⟩
          case measure => simp [intOf]
      · rw [if_neg hpk] at ha
        have hpos : Hid (posP p (0 + 1) = posP p 0) := Lib.hid (by show posP p 0 + _ = _; rw [if_neg hpk]; rfl)
        have hval : Hid (valP p g (0 + 1) = N) := Lib.hid (by show valP p g 0 + _ = _; rw [if_neg hpk, HN.out]; rfl)
        go_wp2
        go_roundw
        case rel => exact ⟨0 + 1, by omega, by first | rfl | go_num, HBV.out, by rw [hpos.out]; exact HSL.out, by rw [hval.out]⟩
        case measure => simp [intOf]
    · go_upto_region 5 with (fail)
      have hv0 : (wr.alloc (.cells #[.int .u8 2, .int .u64 8] 111)).cell? ⟨wr.heap.size, 0, none⟩ = some (.int .u8 2) := World.cell?_alloc_mark wr _ 111 (0, 0) 0
      have hv1 : (wr.alloc (.cells #[.int .u8 2, .int .u64 8] 111)).cell? ⟨wr.heap.size, 1, none⟩ = some (.int .u64 8) := World.cell?_alloc_mark wr _ 111 (0, 0) 1
      have HBV : Hid (Below w.heap.size w (wr.alloc (.cells #[.int .u8 2, .int .u64 8] 111))) := Lib.hid (HB2.out.alloc HB2.out.size _)
      generalize wr.alloc _ = V at hv0 hv1 HBV ⊢
      clear o0 o1 o2 o3
      have ha := HBITS.out.2.1
      by_cases hpk : p 1 = true
      · rw [if_pos hpk] at ha
        have hpos : Hid (posP p (1 + 1) = posP p 1 + 1) := Lib.hid (by show posP p 1 + _ = _; rw [if_pos hpk])
        have hval : Hid (valP p g (1 + 1) = N + g (posP p 1) * 256) := Lib.hid (by show valP p g 1 + _ = _; rw [if_pos hpk, HN.out])
        have hle : posP p 1 + 1 ≤ n := by have := hstep.out 1 (by decide); rw [hpos.out] at this; exact this
        have hNl : N < 256 ^ 1 := by
          rw [← HN.out]
          refine valP_lt p g 1 (fun j hj hpj => HG.out _ ?_)
          have h1 := hstep.out j (by omega)
          have h2 : posP p (j + 1) = posP p j + 1 := by show posP p j + _ = _; rw [if_pos hpj]
          omega
        have hcv : V.cell? ⟨b, off + posP p 1, none⟩ = some (.int .u8 (g (posP p 1) : Nat)) := (HBV.out.cell (p := ⟨b, off + posP p 1, none⟩) HBL.out).trans (HC.out _ (by omega))
        have hy := HG.out (posP p 1) (by omega)
        obtain ⟨o', C, rfl, hnC, hCm, ho⟩ := HSL.out
        obtain ⟨Q, hQ⟩ : ∃ Q, Q = off + posP p 1 := ⟨_, rfl⟩
        rw [← hQ] at hcv
        have hoq : Q = o' := hQ.trans (ho (by omega)).symm
        subst hoq
        have HQ := Lib.hid hQ; clear hQ ho HSL
        generalize hgy : g (posP p 1) = y at hcv hval hy
        clear hgy
        have s1 : IntKind.u64.wrap ((y : Int) * 2 ^ 8) = (y : Int) * 256 := by rw [IntKind.wrap_u64]; omega
        have r1 : bits .or .u64 (N : Int) ((y : Int) * 256) = (N : Int) + (y : Int) * 256 := by have h := or8 N y 1 hNl hy (by decide); simpa using h
        generalize hnq : n - posP p 1 = r at hnC ⊢
        have hr1 : 1 ≤ r := by omega
        have HNQ := Lib.hid hnq; clear hnq
        have hn0i : ((r : Int) == 0) = false := beq_eq_false_iff_ne.mpr (by omega)
        have hni : (0 : Int) < (r : Int) := by omega
        have hr1i : (1 : Int) ≤ (r : Int) := by omega
        have hC1i : (1 : Int) ≤ (C : Int) := by omega
        have HSL2 : Hid (∀ v, (C - 1 = 0 → v = .slice (some ⟨b, Q, none⟩) (r - 1) 0) → (C - 1 ≠ 0 → v = .slice (some ⟨b, Q + 1, none⟩) (r - 1) (C - 1)) → Sl b (off + posP p (1 + 1)) (n - posP p (1 + 1)) v) := Lib.hid (by
          intro v h1 h2
          rw [hpos.out, show n - (posP p 1 + 1) = r - 1 by have := HNQ.out; omega]
          by_cases hC : C - 1 = 0
          · exact ⟨Q, 0, h1 hC, by omega, by omega, fun h => by omega⟩
          · exact ⟨Q + 1, C - 1, h2 hC, by omega, by omega, fun _ => by have := HQ.out; omega⟩)
        go_upto_region 8 with (fail)
        by_cases hC : C - 1 = 0
        · go_quiet (fail)
          go_wp2
          go_roundw
          case rel => exact ⟨1 + 1, by omega, by first | rfl | go_num, below_drewN HBV.out _, HSL2.out _ (fun _ => by first | rfl | (rw [hC])) (fun h => absurd hC h), by rw [hval.out]; rfl⟩
          case measure => simp [intOf]
        · go_quiet (fail)
          go_wp2
          go_roundw
          case rel => exact ⟨1 + 1, by omega, by first | rfl | go_num, below_drewN HBV.out _, HSL2.out _ (fun h => absurd h hC) (fun _ => rfl), by rw [hval.out]; rfl⟩
          case measure => simp [intOf]
      · rw [if_neg hpk] at ha
        have hpos : Hid (posP p (1 + 1) = posP p 1) := Lib.hid (by show posP p 1 + _ = _; rw [if_neg hpk]; rfl)
        have hval : Hid (valP p g (1 + 1) = N) := Lib.hid (by show valP p g 1 + _ = _; rw [if_neg hpk, HN.out]; rfl)
        go_wp2
        go_roundw
        case rel => exact ⟨1 + 1, by omega, by first | rfl | go_num, HBV.out, by rw [hpos.out]; exact HSL.out, by rw [hval.out]⟩
        case measure => simp [intOf]
    · go_upto_region 5 with (fail)
      have hv0 : (wr.alloc (.cells #[.int .u8 4, .int .u64 16] 111)).cell? ⟨wr.heap.size, 0, none⟩ = some (.int .u8 4) := World.cell?_alloc_mark wr _ 111 (0, 0) 0
      have hv1 : (wr.alloc (.cells #[.int .u8 4, .int .u64 16] 111)).cell? ⟨wr.heap.size, 1, none⟩ = some (.int .u64 16) := World.cell?_alloc_mark wr _ 111 (0, 0) 1
      have HBV : Hid (Below w.heap.size w (wr.alloc (.cells #[.int .u8 4, .int .u64 16] 111))) := Lib.hid (HB2.out.alloc HB2.out.size _)
      generalize wr.alloc _ = V at hv0 hv1 HBV ⊢
      clear o0 o1 o2 o3
      have ha := HBITS.out.2.2.1
      by_cases hpk : p 2 = true
      · rw [if_pos hpk] at ha
        have hpos : Hid (posP p (2 + 1) = posP p 2 + 1) := Lib.hid (by show posP p 2 + _ = _; rw [if_pos hpk])
        have hval : Hid (valP p g (2 + 1) = N + g (posP p 2) * 65536) := Lib.hid (by show valP p g 2 + _ = _; rw [if_pos hpk, HN.out])
        have hle : posP p 2 + 1 ≤ n := by have := hstep.out 2 (by decide); rw [hpos.out] at this; exact this
        have hNl : N < 256 ^ 2 := by
          rw [← HN.out]
          refine valP_lt p g 2 (fun j hj hpj => HG.out _ ?_)
          have h1 := hstep.out j (by omega)
          have h2 : posP p (j + 1) = posP p j + 1 := by show posP p j + _ = _; rw [if_pos hpj]
          omega
        have hcv : V.cell? ⟨b, off + posP p 2, none⟩ = some (.int .u8 (g (posP p 2) : Nat)) := (HBV.out.cell (p := ⟨b, off + posP p 2, none⟩) HBL.out).trans (HC.out _ (by omega))
        have hy := HG.out (posP p 2) (by omega)
        obtain ⟨o', C, rfl, hnC, hCm, ho⟩ := HSL.out
        obtain ⟨Q, hQ⟩ : ∃ Q, Q = off + posP p 2 := ⟨_, rfl⟩
        rw [← hQ] at hcv
        have hoq : Q = o' := hQ.trans (ho (by omega)).symm
        subst hoq
        have HQ := Lib.hid hQ; clear hQ ho HSL
        generalize hgy : g (posP p 2) = y at hcv hval hy
        clear hgy
        have s1 : IntKind.u64.wrap ((y : Int) * 2 ^ 16) = (y : Int) * 65536 := by rw [IntKind.wrap_u64]; omega
        have r1 : bits .or .u64 (N : Int) ((y : Int) * 65536) = (N : Int) + (y : Int) * 65536 := by have h := or8 N y 2 hNl hy (by decide); simpa using h
        generalize hnq : n - posP p 2 = r at hnC ⊢
        have hr1 : 1 ≤ r := by omega
        have HNQ := Lib.hid hnq; clear hnq
        have hn0i : ((r : Int) == 0) = false := beq_eq_false_iff_ne.mpr (by omega)
        have hni : (0 : Int) < (r : Int) := by omega
        have hr1i : (1 : Int) ≤ (r : Int) := by omega
        have hC1i : (1 : Int) ≤ (C : Int) := by omega
        have HSL2 : Hid (∀ v, (C - 1 = 0 → v = .slice (some ⟨b, Q, none⟩) (r - 1) 0) → (C - 1 ≠ 0 → v = .slice (some ⟨b, Q + 1, none⟩) (r - 1) (C - 1)) → Sl b (off + posP p (2 + 1)) (n - posP p (2 + 1)) v) := Lib.hid (by
          intro v h1 h2
          rw [hpos.out, show n - (posP p 2 + 1) = r - 1 by have := HNQ.out; omega]
          by_cases hC : C - 1 = 0
          · exact ⟨Q, 0, h1 hC, by omega, by omega, fun h => by omega⟩
          · exact ⟨Q + 1, C - 1, h2 hC, by omega, by omega, fun _ => by have := HQ.out; omega⟩)
        go_upto_region 8 with (fail)
        by_cases hC : C - 1 = 0
        · go_quiet (fail)
          go_wp2
          go_roundw
          case rel => exact ⟨2 + 1, by omega, by first | rfl | go_num, below_drewN HBV.out _, HSL2.out _ (fun _ => by first | rfl | (rw [hC])) (fun h => absurd hC h), by rw [hval.out]; rfl⟩
          case measure => simp [intOf]
        · go_quiet (fail)
          go_wp2
          go_roundw
          case rel => exact ⟨2 + 1, by omega, by first | rfl | go_num, below_drewN HBV.out _, HSL2.out _ (fun h => absurd h hC) (fun _ => rfl), by rw [hval.out]; rfl⟩
          case measure => simp [intOf]
      · rw [if_neg hpk] at ha
        have hpos : Hid (posP p (2 + 1) = posP p 2) := Lib.hid (by show posP p 2 + _ = _; rw [if_neg hpk]; rfl)
        have hval : Hid (valP p g (2 + 1) = N) := Lib.hid (by show valP p g 2 + _ = _; rw [if_neg hpk, HN.out]; rfl)
        go_wp2
        go_roundw
        case rel => exact ⟨2 + 1, by omega, by first | rfl | go_num, HBV.out, by rw [hpos.out]; exact HSL.out, by rw [hval.out]⟩
        case measure => simp [intOf]
    · go_upto_region 5 with (fail)
      have hv0 : (wr.alloc (.cells #[.int .u8 8, .int .u64 24] 111)).cell? ⟨wr.heap.size, 0, none⟩ = some (.int .u8 8) := World.cell?_alloc_mark wr _ 111 (0, 0) 0
      have hv1 : (wr.alloc (.cells #[.int .u8 8, .int .u64 24] 111)).cell? ⟨wr.heap.size, 1, none⟩ = some (.int .u64 24) := World.cell?_alloc_mark wr _ 111 (0, 0) 1
      have HBV : Hid (Below w.heap.size w (wr.alloc (.cells #[.int .u8 8, .int .u64 24] 111))) := Lib.hid (HB2.out.alloc HB2.out.size _)
      generalize wr.alloc _ = V at hv0 hv1 HBV ⊢
      clear o0 o1 o2 o3
      have ha := HBITS.out.2.2.2
      by_cases hpk : p 3 = true
      · rw [if_pos hpk] at ha
        have hpos : Hid (posP p (3 + 1) = posP p 3 + 1) := Lib.hid (by show posP p 3 + _ = _; rw [if_pos hpk])
        have hval : Hid (valP p g (3 + 1) = N + g (posP p 3) * 16777216) := Lib.hid (by show valP p g 3 + _ = _; rw [if_pos hpk, HN.out])
        have hle : posP p 3 + 1 ≤ n := by have := hstep.out 3 (by decide); rw [hpos.out] at this; exact this
        have hNl : N < 256 ^ 3 := by
          rw [← HN.out]
          refine valP_lt p g 3 (fun j hj hpj => HG.out _ ?_)
          have h1 := hstep.out j (by omega)
          have h2 : posP p (j + 1) = posP p j + 1 := by show posP p j + _ = _; rw [if_pos hpj]
          omega
        have hcv : V.cell? ⟨b, off + posP p 3, none⟩ = some (.int .u8 (g (posP p 3) : Nat)) := (HBV.out.cell (p := ⟨b, off + posP p 3, none⟩) HBL.out).trans (HC.out _ (by omega))
        have hy := HG.out (posP p 3) (by omega)
        obtain ⟨o', C, rfl, hnC, hCm, ho⟩ := HSL.out
        obtain ⟨Q, hQ⟩ : ∃ Q, Q = off + posP p 3 := ⟨_, rfl⟩
        rw [← hQ] at hcv
        have hoq : Q = o' := hQ.trans (ho (by omega)).symm
        subst hoq
        have HQ := Lib.hid hQ; clear hQ ho HSL
        generalize hgy : g (posP p 3) = y at hcv hval hy
        clear hgy
        have s1 : IntKind.u64.wrap ((y : Int) * 2 ^ 24) = (y : Int) * 16777216 := by rw [IntKind.wrap_u64]; omega
        have r1 : bits .or .u64 (N : Int) ((y : Int) * 16777216) = (N : Int) + (y : Int) * 16777216 := by have h := or8 N y 3 hNl hy (by decide); simpa using h
        generalize hnq : n - posP p 3 = r at hnC ⊢
        have hr1 : 1 ≤ r := by omega
        have HNQ := Lib.hid hnq; clear hnq
        have hn0i : ((r : Int) == 0) = false := beq_eq_false_iff_ne.mpr (by omega)
        have hni : (0 : Int) < (r : Int) := by omega
        have hr1i : (1 : Int) ≤ (r : Int) := by omega
        have hC1i : (1 : Int) ≤ (C : Int) := by omega
        have HSL2 : Hid (∀ v, (C - 1 = 0 → v = .slice (some ⟨b, Q, none⟩) (r - 1) 0) → (C - 1 ≠ 0 → v = .slice (some ⟨b, Q + 1, none⟩) (r - 1) (C - 1)) → Sl b (off + posP p (3 + 1)) (n - posP p (3 + 1)) v) := Lib.hid (by
          intro v h1 h2
          rw [hpos.out, show n - (posP p 3 + 1) = r - 1 by have := HNQ.out; omega]
          by_cases hC : C - 1 = 0
          · exact ⟨Q, 0, h1 hC, by omega, by omega, fun h => by omega⟩
          · exact ⟨Q + 1, C - 1, h2 hC, by omega, by omega, fun _ => by have := HQ.out; omega⟩)
        go_upto_region 8 with (fail)
        by_cases hC : C - 1 = 0
        · go_quiet (fail)
          go_wp2
          go_roundw
          case rel => exact ⟨3 + 1, by omega, by first | rfl | go_num, below_drewN HBV.out _, HSL2.out _ (fun _ => by first | rfl | (rw [hC])) (fun h => absurd hC h), by rw [hval.out]; rfl⟩
          case measure => simp [intOf]
        · go_quiet (fail)
          go_wp2
          go_roundw
          case rel => exact ⟨3 + 1, by omega, by first | rfl | go_num, below_drewN HBV.out _, HSL2.out _ (fun h => absurd h hC) (fun _ => rfl), by rw [hval.out]; rfl⟩
          case measure => simp [intOf]
      · rw [if_neg hpk] at ha
        have hpos : Hid (posP p (3 + 1) = posP p 3) := Lib.hid (by show posP p 3 + _ = _; rw [if_neg hpk]; rfl)
        have hval : Hid (valP p g (3 + 1) = N) := Lib.hid (by show valP p g 3 + _ = _; rw [if_neg hpk, HN.out]; rfl)
        go_wp2
        go_roundw
        case rel => exact ⟨3 + 1, by omega, by first | rfl | go_num, HBV.out, by rw [hpos.out]; exact HSL.out, by rw [hval.out]⟩
        case measure => simp [intOf]
    · go_wp2
      go_ret3
      obtain ⟨o', C, hu, hnC, hCm, ho⟩ := HSL.out
      subst hu
      exact ⟨_, by rw [HN.out]; rfl, ⟨o', C, rfl, hnC, hCm, ho⟩, HB2.out⟩

set_option maxRecDepth 100000 in
set_option maxHeartbeats 8000000 in
theorem decodeSize_any (x b off n : Nat) (d0 : Value) (p : Nat → Bool) (g : Nat → Nat) (w : World) (hd0 : Sl b off n d0) (hn : n ≤ 100000) (hb : b < w.heap.size) (hp : posP p 3 ≤ n)
    (hbits : bits .and .u8 (x : Int) 16 = (if p 0 = true then 16 else 0) ∧ bits .and .u8 (x : Int) 32 = (if p 1 = true then 32 else 0) ∧ bits .and .u8 (x : Int) 64 = (if p 2 = true then 64 else 0))
    (hg : ∀ i, i < n → g i < 256) (hcell : ∀ i, i < n → w.cell? ⟨b, off + i, none⟩ = some (.int .u8 (g i : Nat))) (hz : valP p g 3 ≠ 0) :
    Calls Tryd.prog 32 #[.int .u8 (x : Nat), d0] w (CmdAny (valP p g 3) b (off + posP p 3) (n - posP p 3) w) := by
  have HBITS := Lib.hid hbits
  have HG := Lib.hid hg
  have HC := Lib.hid hcell
  have HBL := Lib.hid hb
  have HD := Lib.hid hd0
  have HZ := Lib.hid hz; clear hz
  have hstep : Hid (∀ k, k < 3 → posP p (k + 1) ≤ n) := Lib.hid (fun k hk => by
    have hm : ∀ j, posP p j ≤ posP p (j + 1) := fun j => by show posP p j ≤ posP p j + _; omega
    have hm2 : ∀ i j, posP p i ≤ posP p (i + j) := by
      intro i j
      induction j with
      | zero => exact Nat.le_refl _
      | succ j ih => exact Nat.le_trans ih (hm (i + j))
    have := hm2 (k + 1) (3 - (k + 1))
    rw [show k + 1 + (3 - (k + 1)) = 3 by omega] at this
    omega)
  clear hbits hg hcell hb hd0 hp
  go_enter Tryd.func32, Tryd.ntmps32
  go_wp2_with fail
  with_reducible refine (sizes_any _).mono ?_
  rintro e w1 ⟨rfl, hb1⟩
  have HB := Lib.hid hb1; clear hb1
  have o0 := sidx0; have o1 := sidx1; have o2 := sidx2
  go_wp2
  go_loopw [1, 7, 11] (fun d m i wr => ∃ k : Nat, k ≤ 3 ∧ i = .int .i64 k ∧ Below w.heap.size w wr ∧ Sl b (off + posP p k) (n - posP p k) d ∧ m = .int .u64 (valP p g k : Nat)) (fun _ _ i _ => 3 - (intOf i).toNat)
  case atStart => exact ⟨0, by omega, rfl, HB.out, HD.out, rfl⟩
  case round =>
    obtain ⟨k, hk, rfl, hbel, hsl, rfl⟩ := hrel
    have HB2 := Lib.hid hbel; clear hbel
    have HSL := Lib.hid hsl; clear hsl
    generalize hN : valP p g k = N
    have HN := Lib.hid hN; clear hN
    have hk' : k = 0 ∨ k = 1 ∨ k = 2 ∨ k = 3 := by omega
    rcases hk' with rfl | rfl | rfl | rfl
    · go_upto_region 5 with (fail)
      have hv0 : (wr.alloc (.cells #[.int .u8 16, .int .u64 0] 111)).cell? ⟨wr.heap.size, 0, none⟩ = some (.int .u8 16) := World.cell?_alloc_mark wr _ 111 (0, 0) 0
      have hv1 : (wr.alloc (.cells #[.int .u8 16, .int .u64 0] 111)).cell? ⟨wr.heap.size, 1, none⟩ = some (.int .u64 0) := World.cell?_alloc_mark wr _ 111 (0, 0) 1
      have HBV : Hid (Below w.heap.size w (wr.alloc (.cells #[.int .u8 16, .int .u64 0] 111))) := Lib.hid (HB2.out.alloc HB2.out.size _)
      generalize wr.alloc _ = V at hv0 hv1 HBV ⊢
      clear o0 o1 o2
      have ha := HBITS.out.1
      by_cases hpk : p 0 = true
      · rw [if_pos hpk] at ha
        have hpos : Hid (posP p (0 + 1) = posP p 0 + 1) := Lib.hid (by show posP p 0 + _ = _; rw [if_pos hpk])
        have hval : Hid (valP p g (0 + 1) = N + g (posP p 0)) := Lib.hid (by show valP p g 0 + _ = _; rw [if_pos hpk, HN.out]; simp)
        have hle : posP p 0 + 1 ≤ n := by have := hstep.out 0 (by decide); rw [hpos.out] at this; exact this
        have hNl : N < 256 ^ 0 := by
          rw [← HN.out]
          refine valP_lt p g 0 (fun j hj hpj => HG.out _ ?_)
          have h1 := hstep.out j (by omega)
          have h2 : posP p (j + 1) = posP p j + 1 := by show posP p j + _ = _; rw [if_pos hpj]
          omega
        have hcv : V.cell? ⟨b, off + posP p 0, none⟩ = some (.int .u8 (g (posP p 0) : Nat)) := (HBV.out.cell (p := ⟨b, off + posP p 0, none⟩) HBL.out).trans (HC.out _ (by omega))
        have hy := HG.out (posP p 0) (by omega)
        obtain ⟨o', C, rfl, hnC, hCm, ho⟩ := HSL.out
        obtain ⟨Q, hQ⟩ : ∃ Q, Q = off + posP p 0 := ⟨_, rfl⟩
        rw [← hQ] at hcv
        have hoq : Q = o' := hQ.trans (ho (by omega)).symm
        subst hoq
        have HQ := Lib.hid hQ; clear hQ ho HSL
        generalize hgy : g (posP p 0) = y at hcv hval hy
        clear hgy
        have s1 : IntKind.u64.wrap ((y : Int) * 2 ^ 0) = (y : Int) := by rw [IntKind.wrap_u64]; omega
        have r1 : bits .or .u64 (N : Int) ((y : Int)) = (N : Int) + (y : Int) := by have h := or8 N y 0 hNl hy (by decide); simpa using h
        generalize hnq : n - posP p 0 = r at hnC ⊢
        have hr1 : 1 ≤ r := by omega
        have HNQ := Lib.hid hnq; clear hnq
        have hn0i : ((r : Int) == 0) = false := beq_eq_false_iff_ne.mpr (by omega)
        have hni : (0 : Int) < (r : Int) := by omega
        have hr1i : (1 : Int) ≤ (r : Int) := by omega
        have hC1i : (1 : Int) ≤ (C : Int) := by omega
        have HSL2 : Hid (∀ v, (C - 1 = 0 → v = .slice (some ⟨b, Q, none⟩) (r - 1) 0) → (C - 1 ≠ 0 → v = .slice (some ⟨b, Q + 1, none⟩) (r - 1) (C - 1)) → Sl b (off + posP p (0 + 1)) (n - posP p (0 + 1)) v) := Lib.hid (by
          intro v h1 h2
          rw [hpos.out, show n - (posP p 0 + 1) = r - 1 by have := HNQ.out; omega]
          by_cases hC : C - 1 = 0
          · exact ⟨Q, 0, h1 hC, by omega, by omega, fun h => by omega⟩
          · exact ⟨Q + 1, C - 1, h2 hC, by omega, by omega, fun _ => by have := HQ.out; omega⟩)
        go_upto_region 8 with (fail)
        by_cases hC : C - 1 = 0
        · go_quiet (fail)
          go_wp2
          go_roundw
          case rel => exact ⟨0 + 1, by omega, by first | rfl | go_num, below_drewN HBV.out _, HSL2.out _ (fun _ => by first | rfl | (rw [hC])) (fun h => absurd hC h), by rw [hval.out]; rfl⟩
          case measure => simp [intOf]
        · go_quiet (fail)
          go_wp2
          go_roundw
          case rel => exact ⟨0 + 1, by omega, by first | rfl | go_num, below_drewN HBV.out _, HSL2.out _ (fun h => absurd h hC) (fun _ => rfl), by rw [hval.out]; rfl⟩
          case measure => simp [intOf]
      · rw [if_neg hpk] at ha
        have hpos : Hid (posP p (0 + 1) = posP p 0) := Lib.hid (by show posP p 0 + _ = _; rw [if_neg hpk]; rfl)
        have hval : Hid (valP p g (0 + 1) = N) := Lib.hid (by show valP p g 0 + _ = _; rw [if_neg hpk, HN.out]; rfl)
        go_wp2
        go_roundw
        case rel => exact ⟨0 + 1, by omega, by first | rfl | go_num, HBV.out, by rw [hpos.out]; exact HSL.out, by rw [hval.out]⟩
        case measure => simp [intOf]
    · go_upto_region 5 with (fail)
      have hv0 : (wr.alloc (.cells #[.int .u8 32, .int .u64 8] 111)).cell? ⟨wr.heap.size, 0, none⟩ = some (.int .u8 32) := World.cell?_alloc_mark wr _ 111 (0, 0) 0
      have hv1 : (wr.alloc (.cells #[.int .u8 32, .int .u64 8] 111)).cell? ⟨wr.heap.size, 1, none⟩ = some (.int .u64 8) := World.cell?_alloc_mark wr _ 111 (0, 0) 1
      have HBV : Hid (Below w.heap.size w (wr.alloc (.cells #[.int .u8 32, .int .u64 8] 111))) := Lib.hid (HB2.out.alloc HB2.out.size _)
      generalize wr.alloc _ = V at hv0 hv1 HBV ⊢
      clear o0 o1 o2
      have ha := HBITS.out.2.1
      by_cases hpk : p 1 = true
      · rw [if_pos hpk] at ha
        have hpos : Hid (posP p (1 + 1) = posP p 1 + 1) := Lib.hid (by show posP p 1 + _ = _; rw [if_pos hpk])
        have hval : Hid (valP p g (1 + 1) = N + g (posP p 1) * 256) := Lib.hid (by show valP p g 1 + _ = _; rw [if_pos hpk, HN.out])
        have hle : posP p 1 + 1 ≤ n := by have := hstep.out 1 (by decide); rw [hpos.out] at this; exact this
        have hNl : N < 256 ^ 1 := by
          rw [← HN.out]
          refine valP_lt p g 1 (fun j hj hpj => HG.out _ ?_)
          have h1 := hstep.out j (by omega)
          have h2 : posP p (j + 1) = posP p j + 1 := by show posP p j + _ = _; rw [if_pos hpj]
          omega
        have hcv : V.cell? ⟨b, off + posP p 1, none⟩ = some (.int .u8 (g (posP p 1) : Nat)) := (HBV.out.cell (p := ⟨b, off + posP p 1, none⟩) HBL.out).trans (HC.out _ (by omega))
        have hy := HG.out (posP p 1) (by omega)
        obtain ⟨o', C, rfl, hnC, hCm, ho⟩ := HSL.out
        obtain ⟨Q, hQ⟩ : ∃ Q, Q = off + posP p 1 := ⟨_, rfl⟩
        rw [← hQ] at hcv
        have hoq : Q = o' := hQ.trans (ho (by omega)).symm
        subst hoq
        have HQ := Lib.hid hQ; clear hQ ho HSL
        generalize hgy : g (posP p 1) = y at hcv hval hy
        clear hgy
        have s1 : IntKind.u64.wrap ((y : Int) * 2 ^ 8) = (y : Int) * 256 := by rw [IntKind.wrap_u64]; omega
        have r1 : bits .or .u64 (N : Int) ((y : Int) * 256) = (N : Int) + (y : Int) * 256 := by have h := or8 N y 1 hNl hy (by decide); simpa using h
        generalize hnq : n - posP p 1 = r at hnC ⊢
        have hr1 : 1 ≤ r := by omega
        have HNQ := Lib.hid hnq; clear hnq
        have hn0i : ((r : Int) == 0) = false := beq_eq_false_iff_ne.mpr (by omega)
        have hni : (0 : Int) < (r : Int) := by omega
        have hr1i : (1 : Int) ≤ (r : Int) := by omega
        have hC1i : (1 : Int) ≤ (C : Int) := by omega
        have HSL2 : Hid (∀ v, (C - 1 = 0 → v = .slice (some ⟨b, Q, none⟩) (r - 1) 0) → (C - 1 ≠ 0 → v = .slice (some ⟨b, Q + 1, none⟩) (r - 1) (C - 1)) → Sl b (off + posP p (1 + 1)) (n - posP p (1 + 1)) v) := Lib.hid (by
          intro v h1 h2
          rw [hpos.out, show n - (posP p 1 + 1) = r - 1 by have := HNQ.out; omega]
          by_cases hC : C - 1 = 0
          · exact ⟨Q, 0, h1 hC, by omega, by omega, fun h => by omega⟩
          · exact ⟨Q + 1, C - 1, h2 hC, by omega, by omega, fun _ => by have := HQ.out; omega⟩)
        go_upto_region 8 with (fail)
        by_cases hC : C - 1 = 0
        · go_quiet (fail)
          go_wp2
          go_roundw
          case rel => exact ⟨1 + 1, by omega, by first | rfl | go_num, below_drewN HBV.out _, HSL2.out _ (fun _ => by first | rfl | (rw [hC])) (fun h => absurd hC h), by rw [hval.out]; rfl⟩
          case measure => simp [intOf]
        · go_quiet (fail)
          go_wp2
          go_roundw
          case rel => exact ⟨1 + 1, by omega, by first | rfl | go_num, below_drewN HBV.out _, HSL2.out _ (fun h => absurd h hC) (fun _ => rfl), by rw [hval.out]; rfl⟩
          case measure => simp [intOf]
      · rw [if_neg hpk] at ha
        have hpos : Hid (posP p (1 + 1) = posP p 1) := Lib.hid (by show posP p 1 + _ = _; rw [if_neg hpk]; rfl)
        have hval : Hid (valP p g (1 + 1) = N) := Lib.hid (by show valP p g 1 + _ = _; rw [if_neg hpk, HN.out]; rfl)
        go_wp2
        go_roundw
        case rel => exact ⟨1 + 1, by omega, by first | rfl | go_num, HBV.out, by rw [hpos.out]; exact HSL.out, by rw [hval.out]⟩
        case measure => simp [intOf]
    · go_upto_region 5 with (fail)
      have hv0 : (wr.alloc (.cells #[.int .u8 64, .int .u64 16] 111)).cell? ⟨wr.heap.size, 0, none⟩ = some (.int .u8 64) := World.cell?_alloc_mark wr _ 111 (0, 0) 0
      have hv1 : (wr.alloc (.cells #[.int .u8 64, .int .u64 16] 111)).cell? ⟨wr.heap.size, 1, none⟩ = some (.int .u64 16) := World.cell?_alloc_mark wr _ 111 (0, 0) 1
      have HBV : Hid (Below w.heap.size w (wr.alloc (.cells #[.int .u8 64, .int .u64 16] 111))) := Lib.hid (HB2.out.alloc HB2.out.size _)
      generalize wr.alloc _ = V at hv0 hv1 HBV ⊢
      clear o0 o1 o2
      have ha := HBITS.out.2.2
      by_cases hpk : p 2 = true
      · rw [if_pos hpk] at ha
        have hpos : Hid (posP p (2 + 1) = posP p 2 + 1) := Lib.hid (by show posP p 2 + _ = _; rw [if_pos hpk])
        have hval : Hid (valP p g (2 + 1) = N + g (posP p 2) * 65536) := Lib.hid (by show valP p g 2 + _ = _; rw [if_pos hpk, HN.out])
        have hle : posP p 2 + 1 ≤ n := by have := hstep.out 2 (by decide); rw [hpos.out] at this; exact this
        have hNl : N < 256 ^ 2 := by
          rw [← HN.out]
          refine valP_lt p g 2 (fun j hj hpj => HG.out _ ?_)
          have h1 := hstep.out j (by omega)
          have h2 : posP p (j + 1) = posP p j + 1 := by show posP p j + _ = _; rw [if_pos hpj]
          omega
        have hcv : V.cell? ⟨b, off + posP p 2, none⟩ = some (.int .u8 (g (posP p 2) : Nat)) := (HBV.out.cell (p := ⟨b, off + posP p 2, none⟩) HBL.out).trans (HC.out _ (by omega))
        have hy := HG.out (posP p 2) (by omega)
        obtain ⟨o', C, rfl, hnC, hCm, ho⟩ := HSL.out
        obtain ⟨Q, hQ⟩ : ∃ Q, Q = off + posP p 2 := ⟨_, rfl⟩
        rw [← hQ] at hcv
        have hoq : Q = o' := hQ.trans (ho (by omega)).symm
        subst hoq
        have HQ := Lib.hid hQ; clear hQ ho HSL
        generalize hgy : g (posP p 2) = y at hcv hval hy
        clear hgy
        have s1 : IntKind.u64.wrap ((y : Int) * 2 ^ 16) = (y : Int) * 65536 := by rw [IntKind.wrap_u64]; omega
        have r1 : bits .or .u64 (N : Int) ((y : Int) * 65536) = (N : Int) + (y : Int) * 65536 := by have h := or8 N y 2 hNl hy (by decide); simpa using h
        generalize hnq : n - posP p 2 = r at hnC ⊢
        have hr1 : 1 ≤ r := by omega
        have HNQ := Lib.hid hnq; clear hnq
        have hn0i : ((r : Int) == 0) = false := beq_eq_false_iff_ne.mpr (by omega)
        have hni : (0 : Int) < (r : Int) := by omega
        have hr1i : (1 : Int) ≤ (r : Int) := by omega
        have hC1i : (1 : Int) ≤ (C : Int) := by omega
        have HSL2 : Hid (∀ v, (C - 1 = 0 → v = .slice (some ⟨b, Q, none⟩) (r - 1) 0) → (C - 1 ≠ 0 → v = .slice (some ⟨b, Q + 1, none⟩) (r - 1) (C - 1)) → Sl b (off + posP p (2 + 1)) (n - posP p (2 + 1)) v) := Lib.hid (by
          intro v h1 h2
          rw [hpos.out, show n - (posP p 2 + 1) = r - 1 by have := HNQ.out; omega]
          by_cases hC : C - 1 = 0
          · exact ⟨Q, 0, h1 hC, by omega, by omega, fun h => by omega⟩
          · exact ⟨Q + 1, C - 1, h2 hC, by omega, by omega, fun _ => by have := HQ.out; omega⟩)
        go_upto_region 8 with (fail)
        by_cases hC : C - 1 = 0
        · go_quiet (fail)
          go_wp2
          go_roundw
          case rel => exact ⟨2 + 1, by omega, by first | rfl | go_num, below_drewN HBV.out _, HSL2.out _ (fun _ => by first | rfl | (rw [hC])) (fun h => absurd hC h), by rw [hval.out]; rfl⟩
          case measure => simp [intOf]
        · go_quiet (fail)
          go_wp2
          go_roundw
          case rel => exact ⟨2 + 1, by omega, by first | rfl | go_num, below_drewN HBV.out _, HSL2.out _ (fun h => absurd h hC) (fun _ => rfl), by rw [hval.out]; rfl⟩
          case measure => simp [intOf]
      · rw [if_neg hpk] at ha
        have hpos : Hid (posP p (2 + 1) = posP p 2) := Lib.hid (by show posP p 2 + _ = _; rw [if_neg hpk]; rfl)
        have hval : Hid (valP p g (2 + 1) = N) := Lib.hid (by show valP p g 2 + _ = _; rw [if_neg hpk, HN.out]; rfl)
        go_wp2
        go_roundw
        case rel => exact ⟨2 + 1, by omega, by first | rfl | go_num, HBV.out, by rw [hpos.out]; exact HSL.out, by rw [hval.out]⟩
        case measure => simp [intOf]
    · have hz : ((N : Int) == 0) = false := beq_eq_false_iff_ne.mpr (by have := HZ.out; rw [HN.out] at this; omega)
      go_wp2
      go_ret3
      obtain ⟨o', C, hu, hnC, hCm, ho⟩ := HSL.out
      subst hu
      exact ⟨_, by rw [HN.out]; rfl, ⟨o', C, rfl, hnC, hCm, ho⟩, HB2.out⟩
end Go.Proofs.YtgibmkgibkhemaaDoor
