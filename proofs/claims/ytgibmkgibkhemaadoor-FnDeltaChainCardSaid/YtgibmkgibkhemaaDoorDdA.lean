/- encodeCopyOperation. -/
import Derived.Test.YtgibmkgibkhemaaDoorDcZ
namespace Go.Proofs.YtgibmkgibkhemaaDoor
open Go.RowKit
set_option linter.unusedSimpArgs false
set_option linter.unusedVariables false

theorem and_lo : ∀ o, o < 1001 → o &&& 255 = o % 256 ∧ o &&& 65280 = o / 256 * 256 ∧ o &&& 16711680 = 0 ∧ o &&& 4278190080 = 0 := by decide +kernel
theorem or_bit : ∀ c, c < 256 → (c / 1 % 2 = 0 → c ||| 1 = c + 1) ∧ (c / 2 % 2 = 0 → c ||| 2 = c + 2) ∧ (c / 16 % 2 = 0 → c ||| 16 = c + 16) ∧ (c / 32 % 2 = 0 → c ||| 32 = c + 32) := by decide +kernel
theorem i_and (o f r : Nat) (ho : o < 1001) (hf : f < 9223372036854775808) (h : o &&& f = r) : bits .and .i64 (o : Int) (f : Int) = (r : Int) := by
  rw [i64_and_nat o f (by omega) hf, h]
theorem i_or (c b r : Nat) (hc : c < 256) (hb : b < 256) (h : c ||| b = r) : bits .or .i64 (c : Int) (b : Int) = (r : Int) := by
  rw [i64_or_nat c b (by omega) (by omega), h]
/-- What two rounds over a number's bytes put in. -/
def cod2 (o : Nat) (a b : Nat) : Nat → Nat
  | 0 => 0
  | 1 => a * bit1 (o % 256)
  | _ => a * bit1 (o % 256) + b * bit1 (o / 256)
def byt2 (o : Nat) : Nat → List Nat
  | 0 => []
  | 1 => optB (o % 256)
  | _ => optB (o % 256) ++ optB (o / 256)
theorem byt2_len (o k : Nat) : (byt2 o k).length ≤ 2 := by
  have h1 : ∀ x, (optB x).length ≤ 1 := fun x => by rw [optB_len]; exact bit1_le x
  have := h1 (o % 256); have := h1 (o / 256)
  match k with
  | 0 => exact Nat.zero_le _
  | 1 => show (optB _).length ≤ 2; omega
  | k + 2 => show (optB _ ++ optB _).length ≤ 2; rw [List.length_append]; omega
def CyRel (base : Nat) (pre : List Nat) (o a b K : Nat) (w : World) (cv lv iv : Value) (wr : World) : Prop :=
  ∃ k : Nat, k ≤ K ∧ iv = .int .u64 (k : Nat) ∧ cv = .int .i64 ((base + cod2 o a b k : Nat) : Int) ∧ OwnB wr w.heap.size lv (pre ++ byt2 o k) ∧ Below w.heap.size w wr
theorem bit1_z {x : Nat} (h : x = 0) : bit1 x = 0 := by unfold bit1; rw [if_pos h]
theorem bit1_p {x : Nat} (h : x ≠ 0) : bit1 x = 1 := by unfold bit1; rw [if_neg h]
theorem optB_z {x : Nat} (h : x = 0) : optB x = [] := by unfold optB; rw [if_pos h]
theorem optB_p {x : Nat} (h : x ≠ 0) : optB x = [x] := by unfold optB; rw [if_neg h]
set_option maxRecDepth 100000 in
set_option maxHeartbeats 16000000 in
theorem encCopy_any (o n : Nat) (w : World) (ho : o ≤ 1000) (hn : n ≤ 1000) (hn16 : 16 ≤ n) : Calls Tryd.prog 42 #[.int .i64 (o : Nat), .int .i64 (n : Nat)] w (BytesPost (cpyEnc o n) w) := by
  obtain ⟨i0, hi, hz0, hz1, hz2⟩ := info_parts u8Inf2
  obtain ⟨lo1, lo2, lo3, lo4⟩ := and_lo o (by omega)
  obtain ⟨ln1, ln2, ln3, ln4⟩ := and_lo n (by omega)
  have ao0 : bits .and .i64 (o : Int) 255 = ((o % 256 : Nat) : Int) := i_and o 255 _ (by omega) (by decide) lo1
  have ao1 : bits .and .i64 (o : Int) 65280 = ((o / 256 * 256 : Nat) : Int) := i_and o 65280 _ (by omega) (by decide) lo2
  have ao2 : bits .and .i64 (o : Int) 16711680 = ((0 : Nat) : Int) := i_and o 16711680 _ (by omega) (by decide) lo3
  have ao3 : bits .and .i64 (o : Int) 4278190080 = ((0 : Nat) : Int) := i_and o 4278190080 _ (by omega) (by decide) lo4
  have an0 : bits .and .i64 (n : Int) 255 = ((n % 256 : Nat) : Int) := i_and n 255 _ (by omega) (by decide) ln1
  have an1 : bits .and .i64 (n : Int) 65280 = ((n / 256 * 256 : Nat) : Int) := i_and n 65280 _ (by omega) (by decide) ln2
  have an2 : bits .and .i64 (n : Int) 16711680 = ((0 : Nat) : Int) := i_and n 16711680 _ (by omega) (by decide) ln3
  clear lo1 lo2 lo3 lo4 ln1 ln2 ln3 ln4
  go_enter Tryd.func42, Tryd.ntmps42
  go_wp2
  go_loopw [5, 6, 7] (fun cv lv iv wr => CyRel 128 [] o 1 2 4 w cv lv iv wr) (fun _ _ iv _ => 4 - (intOf iv).toNat)
  case atStart => exact ⟨0, by decide, rfl, rfl, OwnB.nil _ _, Below.refl _ _⟩
  case round =>
    obtain ⟨k, hk, rfl, rfl, hown, hbel⟩ := hrel
    have HOWN := Lib.hid hown; have HB := Lib.hid hbel
    clear hown hbel
    have hprel : ([] : List Nat).length = 0 := rfl
    rcases (by omega : k = 0 ∨ k = 1 ∨ k = 2 ∨ k = 3 ∨ k = 4) with rfl | rfl | rfl | rfl | rfl
    · obtain ⟨x, hx⟩ : ∃ x, x = o % 256 := ⟨_, rfl⟩
      have HX := Lib.hid hx
      have hx255 : x ≤ 255 := by omega
      rw [← hx] at ao0
      have HCO : Hid (cod2 o 1 2 1 = cod2 o 1 2 0 + 1 * bit1 x) := Lib.hid (by rw [hx]; first | rfl | exact (Nat.zero_add _).symm)
      have HBY : Hid (byt2 o 1 = byt2 o 0 ++ optB x) := Lib.hid (by rw [hx]; rfl)
      have hcod : cod2 o 1 2 0 ≤ 3 ∧ (128 + cod2 o 1 2 0) / 1 % 2 = 0 ∧ 128 + cod2 o 1 2 0 < 200 := by
        have := bit1_le (o % 256)
        have e : cod2 o 1 2 0 = 0 := rfl
        rw [e]
        omega
      have hlen := byt2_len o 0
      generalize byt2 o 0 = by0 at HOWN HBY hlen
      obtain ⟨L0, hL0⟩ : ∃ L0, L0 = ([] : List Nat) ++ by0 := ⟨_, rfl⟩
      rw [← hL0] at HOWN
      have hll : L0.length ≤ 4 := by rw [hL0, List.length_append]; have := hprel; omega
      have HL0 := Lib.hid hL0
      clear hL0
      generalize hcc : 128 + cod2 o 1 2 0 = cc at hcod ⊢
      have HCC := Lib.hid hcc
      clear hx hcc
      by_cases hx0 : x = 0
      · have hz : bits .and .i64 (o : Int) 255 = 0 := by rw [ao0, hx0]; rfl
        have R := Lib.hid (show OwnB wr w.heap.size _ (([] : List Nat) ++ byt2 o 1) by rw [HBY.out, optB_z hx0, List.append_nil, ← HL0.out]; exact HOWN.out)
        have HC2 : Hid (128 + cod2 o 1 2 1 = cc) := Lib.hid (by rw [HCO.out, bit1_z hx0, ← HCC.out]; omega)
        clear hx0
        go_wp2
        go_roundw
        case rel => exact ⟨1, by decide, by first | rfl | go_num, by rw [HC2.out], R.out, HB.out⟩
        case measure => simp [intOf]
      · have hz : bits .and .i64 (o : Int) 255 = (x : Int) := by rw [ao0] <;> push_cast <;> rfl
        have hq : (((x : Int)) == 0) = false := beq_eq_false_iff_ne.mpr (by omega)
        have hq2 : (((x : Int)) != 0) = true := by simp; omega
        have hor : bits .or .i64 (cc : Int) 1 = ((cc + 1 : Nat) : Int) := i_or cc 1 _ (by omega) (by decide) ((or_bit cc (by omega)).1 hcod.2.1)
        have HC2 : Hid (128 + cod2 o 1 2 1 = cc + 1) := Lib.hid (by rw [HCO.out, bit1_p hx0, ← HCC.out]; omega)
        have HBY2 : Hid (([] : List Nat) ++ byt2 o 1 = L0 ++ [x]) := Lib.hid (by rw [HBY.out, optB_p hx0, ← List.append_assoc, ← HL0.out])
        go_wp2_with (at_builtin; refine wpList_append_lies _ rfl (.tmp 21) (.tmp 29) 38 rfl w.heap.size 5 i0 (.int .u8 0) 1 1 bytesKind hi hz0 hz1 hz2 rfl (by decide) _ _ _ rfl (World.ownsRow.alloc HOWN.out _) ⟨wr.heap.size, 0, none⟩ 1 1 [.int .u8 (x : Nat)] rfl rfl (news_u8 _ _) (one_u8 _) (by decide) ?c3 ?c4 ?c5 _ rfl ?_)
        case c3 => unfold maxLen; omega
        case c4 => omega
        case c5 => have := HB.out.size; first | omega | (rw [heap_new_size]; omega)
        intro gg cap2 w4 hown4 hgrow _ _
        have R := Lib.hid (OwnB.more (L := L0) hown4)
        have RB := Lib.hid ((HB.out.alloc HB.out.size _).grown hgrow (by have := HB.out.size; rw [heap_new_size]; omega) (fun q e => (HOWN.out.lt q e).1))
        clear hown4 hgrow hx0
        go_wp2
        go_roundw
        case rel => exact ⟨1, by decide, by first | rfl | go_num, by rw [HC2.out]; rfl, by have := R.out; rwa [← HBY2.out] at this, RB.out⟩
        case measure => simp [intOf]
    · obtain ⟨x, hx⟩ : ∃ x, x = o / 256 := ⟨_, rfl⟩
      have HX := Lib.hid hx
      have hx255 : x ≤ 255 := by omega
      rw [← hx] at ao1
      have HCO : Hid (cod2 o 1 2 2 = cod2 o 1 2 1 + 2 * bit1 x) := Lib.hid (by rw [hx]; first | rfl | exact (Nat.zero_add _).symm)
      have HBY : Hid (byt2 o 2 = byt2 o 1 ++ optB x) := Lib.hid (by rw [hx]; rfl)
      have hcod : cod2 o 1 2 1 ≤ 3 ∧ (128 + cod2 o 1 2 1) / 2 % 2 = 0 ∧ 128 + cod2 o 1 2 1 < 200 := by
        have := bit1_le (o % 256)
        have e : cod2 o 1 2 1 = 1 * bit1 (o % 256) := rfl
        rw [e]
        omega
      have hlen := byt2_len o 1
      generalize byt2 o 1 = by0 at HOWN HBY hlen
      obtain ⟨L0, hL0⟩ : ∃ L0, L0 = ([] : List Nat) ++ by0 := ⟨_, rfl⟩
      rw [← hL0] at HOWN
      have hll : L0.length ≤ 4 := by rw [hL0, List.length_append]; have := hprel; omega
      have HL0 := Lib.hid hL0
      clear hL0
      generalize hcc : 128 + cod2 o 1 2 1 = cc at hcod ⊢
      have HCC := Lib.hid hcc
      clear hx hcc
      by_cases hx0 : x = 0
      · have hz : bits .and .i64 (o : Int) 65280 = 0 := by rw [ao1, hx0]; rfl
        have R := Lib.hid (show OwnB wr w.heap.size _ (([] : List Nat) ++ byt2 o 2) by rw [HBY.out, optB_z hx0, List.append_nil, ← HL0.out]; exact HOWN.out)
        have HC2 : Hid (128 + cod2 o 1 2 2 = cc) := Lib.hid (by rw [HCO.out, bit1_z hx0, ← HCC.out]; omega)
        clear hx0
        go_wp2
        go_roundw
        case rel => exact ⟨2, by decide, by first | rfl | go_num, by rw [HC2.out], R.out, HB.out⟩
        case measure => simp [intOf]
      · have hz : bits .and .i64 (o : Int) 65280 = (x : Int) * 256 := by rw [ao1] <;> push_cast <;> rfl
        have hq : (((x : Int) * 256) == 0) = false := beq_eq_false_iff_ne.mpr (by omega)
        have hq2 : (((x : Int) * 256) != 0) = true := by simp; omega
        have hor : bits .or .i64 (cc : Int) 2 = ((cc + 2 : Nat) : Int) := i_or cc 2 _ (by omega) (by decide) ((or_bit cc (by omega)).2.1 hcod.2.1)
        have HC2 : Hid (128 + cod2 o 1 2 2 = cc + 2) := Lib.hid (by rw [HCO.out, bit1_p hx0, ← HCC.out]; omega)
        have HBY2 : Hid (([] : List Nat) ++ byt2 o 2 = L0 ++ [x]) := Lib.hid (by rw [HBY.out, optB_p hx0, ← List.append_assoc, ← HL0.out])
        go_wp2_with (at_builtin; refine wpList_append_lies _ rfl (.tmp 21) (.tmp 29) 38 rfl w.heap.size 5 i0 (.int .u8 0) 1 1 bytesKind hi hz0 hz1 hz2 rfl (by decide) _ _ _ rfl (World.ownsRow.alloc HOWN.out _) ⟨wr.heap.size, 0, none⟩ 1 1 [.int .u8 (x : Nat)] rfl rfl (news_u8 _ _) (one_u8 _) (by decide) ?c3 ?c4 ?c5 _ rfl ?_)
        case c3 => unfold maxLen; omega
        case c4 => omega
        case c5 => have := HB.out.size; first | omega | (rw [heap_new_size]; omega)
        intro gg cap2 w4 hown4 hgrow _ _
        have R := Lib.hid (OwnB.more (L := L0) hown4)
        have RB := Lib.hid ((HB.out.alloc HB.out.size _).grown hgrow (by have := HB.out.size; rw [heap_new_size]; omega) (fun q e => (HOWN.out.lt q e).1))
        clear hown4 hgrow hx0
        go_wp2
        go_roundw
        case rel => exact ⟨2, by decide, by first | rfl | go_num, by rw [HC2.out]; rfl, by have := R.out; rwa [← HBY2.out] at this, RB.out⟩
        case measure => simp [intOf]
    · have hcod : cod2 o 1 2 2 = cod2 o 1 2 2 := rfl
      have hz : bits .and .i64 (o : Int) 16711680 = 0 := ao2
      generalize hcc : 128 + cod2 o 1 2 2 = cc
      have HCC := Lib.hid hcc
      clear hcc
      go_wp2
      go_roundw
      case rel => exact ⟨3, by decide, by first | rfl | go_num, by rw [← HCC.out]; rfl, HOWN.out, HB.out⟩
      case measure => simp [intOf]
    · have hcod : cod2 o 1 2 3 = cod2 o 1 2 2 := rfl
      have hz : bits .and .i64 (o : Int) 4278190080 = 0 := ao3
      generalize hcc : 128 + cod2 o 1 2 3 = cc
      have HCC := Lib.hid hcc
      clear hcc
      go_wp2
      go_roundw
      case rel => exact ⟨4, by decide, by first | rfl | go_num, by rw [← HCC.out]; rfl, HOWN.out, HB.out⟩
      case measure => simp [intOf]
    · rw [show ((4 : Nat) : Int) = 4 from rfl]
      obtain ⟨cb, hcb⟩ : ∃ cb, cb = 128 + cod2 o 1 2 4 := ⟨_, rfl⟩
      have hcb2 : 128 ≤ cb ∧ cb ≤ 131 := by
        have := bit1_le (o % 256); have := bit1_le (o / 256)
        have e : cod2 o 1 2 4 = 1 * bit1 (o % 256) + 2 * bit1 (o / 256) := rfl
        rw [hcb, e]; omega
      obtain ⟨pre2, hpre2⟩ : ∃ pre2, pre2 = byt2 o 4 := ⟨_, rfl⟩
      have hprel2 : pre2.length ≤ 2 := by rw [hpre2]; exact byt2_len o 4
      rw [← hcb]
      rw [List.nil_append, ← hpre2] at HOWN
      have HCB := Lib.hid hcb; have HPRE := Lib.hid hpre2
      clear hcb hpre2 hprel ao0 ao1 ao2 ao3
      have HOWN1 := HOWN; have HB1 := HB
      go_wp2
      go_loopw [5, 6, 7] (fun cv lv iv wr => CyRel cb pre2 n 16 32 3 w cv lv iv wr) (fun _ _ iv _ => 3 - (intOf iv).toNat)
      case atStart => exact ⟨0, by decide, rfl, rfl, by rw [show byt2 n 0 = [] from rfl, List.append_nil]; exact HOWN1.out, HB1.out⟩
      case round =>
        clear HOWN1 HB1 HOWN HB
        obtain ⟨k, hk, rfl, rfl, hown, hbel⟩ := hrel
        have HOWN := Lib.hid hown; have HB := Lib.hid hbel
        clear hown hbel
        have hprel := hprel2
        rcases (by omega : k = 0 ∨ k = 1 ∨ k = 2 ∨ k = 3) with rfl | rfl | rfl | rfl
        · obtain ⟨x, hx⟩ : ∃ x, x = n % 256 := ⟨_, rfl⟩
          have HX := Lib.hid hx
          have hx255 : x ≤ 255 := by omega
          rw [← hx] at an0
          have HCO : Hid (cod2 n 16 32 1 = cod2 n 16 32 0 + 16 * bit1 x) := Lib.hid (by rw [hx]; first | rfl | exact (Nat.zero_add _).symm)
          have HBY : Hid (byt2 n 1 = byt2 n 0 ++ optB x) := Lib.hid (by rw [hx]; rfl)
          have hcod : cod2 n 16 32 0 ≤ 48 ∧ (cb + cod2 n 16 32 0) / 16 % 2 = 0 ∧ cb + cod2 n 16 32 0 < 200 := by
            have := bit1_le (n % 256)
            have e : cod2 n 16 32 0 = 0 := rfl
            rw [e]
            omega
          have hlen := byt2_len n 0
          generalize byt2 n 0 = by0 at HOWN HBY hlen
          obtain ⟨L0, hL0⟩ : ∃ L0, L0 = pre2 ++ by0 := ⟨_, rfl⟩
          rw [← hL0] at HOWN
          have hll : L0.length ≤ 4 := by rw [hL0, List.length_append]; have := hprel; omega
          have HL0 := Lib.hid hL0
          clear hL0
          generalize hcc : cb + cod2 n 16 32 0 = cc at hcod ⊢
          have HCC := Lib.hid hcc
          clear hx hcc
          by_cases hx0 : x = 0
          · have hz : bits .and .i64 (n : Int) 255 = 0 := by rw [an0, hx0]; rfl
            have R := Lib.hid (show OwnB wr w.heap.size _ (pre2 ++ byt2 n 1) by rw [HBY.out, optB_z hx0, List.append_nil, ← HL0.out]; exact HOWN.out)
            have HC2 : Hid (cb + cod2 n 16 32 1 = cc) := Lib.hid (by rw [HCO.out, bit1_z hx0, ← HCC.out]; omega)
            clear hx0
            go_wp2
            go_roundw
            case rel => exact ⟨1, by decide, by first | rfl | go_num, by rw [HC2.out], R.out, HB.out⟩
            case measure => simp [intOf]
          · have hz : bits .and .i64 (n : Int) 255 = (x : Int) := by rw [an0] <;> push_cast <;> rfl
            have hq : (((x : Int)) == 0) = false := beq_eq_false_iff_ne.mpr (by omega)
            have hq2 : (((x : Int)) != 0) = true := by simp; omega
            have hor : bits .or .i64 (cc : Int) 16 = ((cc + 16 : Nat) : Int) := i_or cc 16 _ (by omega) (by decide) ((or_bit cc (by omega)).2.2.1 hcod.2.1)
            have HC2 : Hid (cb + cod2 n 16 32 1 = cc + 16) := Lib.hid (by rw [HCO.out, bit1_p hx0, ← HCC.out]; omega)
            have HBY2 : Hid (pre2 ++ byt2 n 1 = L0 ++ [x]) := Lib.hid (by rw [HBY.out, optB_p hx0, ← List.append_assoc, ← HL0.out])
            go_wp2_with (at_builtin; refine wpList_append_lies _ rfl (.tmp 46) (.tmp 54) 38 rfl w.heap.size 5 i0 (.int .u8 0) 1 1 bytesKind hi hz0 hz1 hz2 rfl (by decide) _ _ _ rfl (World.ownsRow.alloc HOWN.out _) ⟨wr.heap.size, 0, none⟩ 1 1 [.int .u8 (x : Nat)] rfl rfl (news_u8 _ _) (one_u8 _) (by decide) ?c3 ?c4 ?c5 _ rfl ?_)
            case c3 => unfold maxLen; omega
            case c4 => omega
            case c5 => have := HB.out.size; first | omega | (rw [heap_new_size]; omega)
            intro gg cap2 w4 hown4 hgrow _ _
            have R := Lib.hid (OwnB.more (L := L0) hown4)
            have RB := Lib.hid ((HB.out.alloc HB.out.size _).grown hgrow (by have := HB.out.size; rw [heap_new_size]; omega) (fun q e => (HOWN.out.lt q e).1))
            clear hown4 hgrow hx0
            go_wp2
            go_roundw
            case rel => exact ⟨1, by decide, by first | rfl | go_num, by rw [HC2.out]; rfl, by have := R.out; rwa [← HBY2.out] at this, RB.out⟩
            case measure => simp [intOf]
        · obtain ⟨x, hx⟩ : ∃ x, x = n / 256 := ⟨_, rfl⟩
          have HX := Lib.hid hx
          have hx255 : x ≤ 255 := by omega
          rw [← hx] at an1
          have HCO : Hid (cod2 n 16 32 2 = cod2 n 16 32 1 + 32 * bit1 x) := Lib.hid (by rw [hx]; first | rfl | exact (Nat.zero_add _).symm)
          have HBY : Hid (byt2 n 2 = byt2 n 1 ++ optB x) := Lib.hid (by rw [hx]; rfl)
          have hcod : cod2 n 16 32 1 ≤ 48 ∧ (cb + cod2 n 16 32 1) / 32 % 2 = 0 ∧ cb + cod2 n 16 32 1 < 200 := by
            have := bit1_le (n % 256)
            have e : cod2 n 16 32 1 = 16 * bit1 (n % 256) := rfl
            rw [e]
            omega
          have hlen := byt2_len n 1
          generalize byt2 n 1 = by0 at HOWN HBY hlen
          obtain ⟨L0, hL0⟩ : ∃ L0, L0 = pre2 ++ by0 := ⟨_, rfl⟩
          rw [← hL0] at HOWN
          have hll : L0.length ≤ 4 := by rw [hL0, List.length_append]; have := hprel; omega
          have HL0 := Lib.hid hL0
          clear hL0
          generalize hcc : cb + cod2 n 16 32 1 = cc at hcod ⊢
          have HCC := Lib.hid hcc
          clear hx hcc
          by_cases hx0 : x = 0
          · have hz : bits .and .i64 (n : Int) 65280 = 0 := by rw [an1, hx0]; rfl
            have R := Lib.hid (show OwnB wr w.heap.size _ (pre2 ++ byt2 n 2) by rw [HBY.out, optB_z hx0, List.append_nil, ← HL0.out]; exact HOWN.out)
            have HC2 : Hid (cb + cod2 n 16 32 2 = cc) := Lib.hid (by rw [HCO.out, bit1_z hx0, ← HCC.out]; omega)
            clear hx0
            go_wp2
            go_roundw
            case rel => exact ⟨2, by decide, by first | rfl | go_num, by rw [HC2.out], R.out, HB.out⟩
            case measure => simp [intOf]
          · have hz : bits .and .i64 (n : Int) 65280 = (x : Int) * 256 := by rw [an1] <;> push_cast <;> rfl
            have hq : (((x : Int) * 256) == 0) = false := beq_eq_false_iff_ne.mpr (by omega)
            have hq2 : (((x : Int) * 256) != 0) = true := by simp; omega
            have hor : bits .or .i64 (cc : Int) 32 = ((cc + 32 : Nat) : Int) := i_or cc 32 _ (by omega) (by decide) ((or_bit cc (by omega)).2.2.2 hcod.2.1)
            have HC2 : Hid (cb + cod2 n 16 32 2 = cc + 32) := Lib.hid (by rw [HCO.out, bit1_p hx0, ← HCC.out]; omega)
            have HBY2 : Hid (pre2 ++ byt2 n 2 = L0 ++ [x]) := Lib.hid (by rw [HBY.out, optB_p hx0, ← List.append_assoc, ← HL0.out])
            go_wp2_with (at_builtin; refine wpList_append_lies _ rfl (.tmp 46) (.tmp 54) 38 rfl w.heap.size 5 i0 (.int .u8 0) 1 1 bytesKind hi hz0 hz1 hz2 rfl (by decide) _ _ _ rfl (World.ownsRow.alloc HOWN.out _) ⟨wr.heap.size, 0, none⟩ 1 1 [.int .u8 (x : Nat)] rfl rfl (news_u8 _ _) (one_u8 _) (by decide) ?c3 ?c4 ?c5 _ rfl ?_)
            case c3 => unfold maxLen; omega
            case c4 => omega
            case c5 => have := HB.out.size; first | omega | (rw [heap_new_size]; omega)
            intro gg cap2 w4 hown4 hgrow _ _
            have R := Lib.hid (OwnB.more (L := L0) hown4)
            have RB := Lib.hid ((HB.out.alloc HB.out.size _).grown hgrow (by have := HB.out.size; rw [heap_new_size]; omega) (fun q e => (HOWN.out.lt q e).1))
            clear hown4 hgrow hx0
            go_wp2
            go_roundw
            case rel => exact ⟨2, by decide, by first | rfl | go_num, by rw [HC2.out]; rfl, by have := R.out; rwa [← HBY2.out] at this, RB.out⟩
            case measure => simp [intOf]
        · have hcod : cod2 n 16 32 2 = cod2 n 16 32 2 := rfl
          have hz : bits .and .i64 (n : Int) 16711680 = 0 := an2
          generalize hcc : cb + cod2 n 16 32 2 = cc
          have HCC := Lib.hid hcc
          clear hcc
          go_wp2
          go_roundw
          case rel => exact ⟨3, by decide, by first | rfl | go_num, by rw [← HCC.out]; rfl, HOWN.out, HB.out⟩
          case measure => simp [intOf]
        · rw [show ((3 : Nat) : Int) = 3 from rfl]
          obtain ⟨cc, hcc⟩ : ∃ cc, cc = cb + cod2 n 16 32 3 := ⟨_, rfl⟩
          rw [← hcc]
          have hcode : cc = cpyCode o n := by
            have e1 : cod2 n 16 32 3 = 16 * bit1 (n % 256) + 32 * bit1 (n / 256) := rfl
            have e2 : cod2 o 1 2 4 = 1 * bit1 (o % 256) + 2 * bit1 (o / 256) := rfl
            have := HCB.out
            rw [hcc, e1]
            unfold cpyCode
            omega
          have hcc255 : cc ≤ 255 := by have := (cpyCode_lt o n).1; omega
          obtain ⟨L0, hL0⟩ : ∃ L0, L0 = pre2 ++ byt2 n 3 := ⟨_, rfl⟩
          rw [← hL0] at HOWN
          have hl4 : L0.length ≤ 4 := by rw [hL0, List.length_append]; have := byt2_len n 3; omega
          have hl1 : 0 < L0.length := by
            have e3 : byt2 n 3 = optB (n % 256) ++ optB (n / 256) := rfl
            rw [hL0, e3, List.length_append, List.length_append, optB_len, optB_len]
            unfold bit1
            by_cases h0 : n % 256 = 0
            · rw [if_pos h0, if_neg (show n / 256 ≠ 0 by omega)]; omega
            · rw [if_neg h0]; omega
          have HENC : Hid (cpyEnc o n = [cc] ++ L0) := Lib.hid (by
            rw [hcode, hL0, HPRE.out]; rfl)
          clear hcc hcode hL0
          obtain ⟨g2, cap2, hv, hB2, hlc2, hcm2, hg2, hcell2⟩ := HOWN.out.slice hl1
          subst hv
          have HC2 := Lib.hid hcell2
          have hown1 : Hid ((wr.alloc (.cells #[.int .u8 (cc : Int)] 5)).ownsRow w.heap.size 5 1 (.slice (some ⟨wr.heap.size, 0, none⟩) 1 1) 1 [.int .u8 (cc : Int)]) :=
            Lib.hid ⟨rfl, .inr ⟨wr.heap.size, 1, #[.int .u8 (cc : Int)], rfl, HB.out.size, heap_new _ _, Nat.le_refl _, by decide, rfl, rfl⟩⟩
          have hnews : Hid (∀ j u, (u8s L0)[j]? = some u → (wr.alloc (.cells #[.int .u8 (cc : Int)] 5)).cell? ((⟨g2, 0, none⟩ : Addr).add j) = some u) := Lib.hid (fun j u hj => by
            have hjl : j < L0.length := by have := (List.getElem?_eq_some_iff.mp hj).1; rwa [u8s_len] at this
            have hadd : (⟨g2, 0, none⟩ : Addr).add j = ⟨g2, 0 + j, none⟩ := by unfold Addr.add; split <;> simp_all
            rw [u8s_at L0 j hjl] at hj
            rw [hadd, Nat.zero_add, ← hj]
            have hk := Below.heap_alloc wr (.cells #[.int .u8 (cc : Int)] 5) g2 hg2
            have := HC2.out j hjl
            unfold World.cell? at this ⊢
            rw [show ((⟨g2, j, none⟩ : Addr).block) = g2 from rfl] at this ⊢
            rw [hk]; exact this)
          clear hcell2
          go_wp2_with (at_builtin; refine wpList_append_lies _ rfl (.tmp 62) (.tmp 63) 38 rfl w.heap.size 5 i0 (.int .u8 0) 1 1 bytesKind hi hz0 hz1 hz2 rfl (by decide) _ _ _ rfl hown1.out ⟨g2, 0, none⟩ L0.length cap2 (u8s L0) rfl (by rw [u8s_len, Nat.mul_one]) hnews.out (u8s_one L0) hl1 ?c3 ?c4 ?c5 _ rfl ?_)
          case c3 => unfold maxLen; omega
          case c4 => omega
          case c5 => have := HB.out.size; first | omega | (rw [heap_new_size]; omega)
          intro gg cap3 w4 hown4 hgrow _ _
          have R : Hid (OwnB w4 w.heap.size (.slice (some ⟨gg, 0, none⟩) (1 + L0.length) cap3) ([cc] ++ L0)) := Lib.hid (by
            unfold OwnB
            rw [u8s_app, List.length_append]
            exact hown4)
          have RB := Lib.hid ((HB.out.alloc HB.out.size _).grown hgrow (by have := HB.out.size; rw [heap_new_size]; omega) (fun q e => by
            have := (hown1.out.lt q e).1; exact this))
          clear hown4 hgrow
          go_wp2
          go_ret
          exact ⟨_, rfl, by rw [HENC.out]; exact R.out, RB.out⟩
end Go.Proofs.YtgibmkgibkhemaaDoor
