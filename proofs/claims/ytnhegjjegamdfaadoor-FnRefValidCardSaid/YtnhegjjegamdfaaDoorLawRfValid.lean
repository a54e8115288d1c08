/- FnRefValid. -/
import Derived.Test.YtnhegjjegamdfaaDoorRfY
import Derived.Test.YtnhegjjegamdfaaDoorRfZ
import Derived.Test.YtnhegjjegamdfaaDoorAwakeR
namespace Go.Proofs.YtnhegjjegamdfaaDoor
open Go.RowKit
set_option linter.unusedSimpArgs false
set_option linter.unusedVariables false

def hyL : List ByteArray := [⟨#[114, 101, 102, 115, 47, 104, 101, 97, 100, 115, 47, 45]⟩, ⟨#[114, 101, 102, 115, 47, 116, 97, 103, 115, 47, 45]⟩]
theorem hy_size (k : Nat) : (hyL.getD k ⟨#[]⟩).size ≤ 1000 := by
  by_cases h : k < 2
  · rcases (by omega : k = 0 ∨ k = 1) with rfl | rfl <;> decide
  · rw [List.getD_eq_getElem?_getD, List.getElem?_eq_none (by simp [hyL]; omega)]; decide
theorem hy_all {l : List Nat} : (∀ j, j < 2 → ¬ Pre l (nb (hyL.getD j ⟨#[]⟩))) ↔ ¬ (Pre l (branchL ++ [45]) ∨ Pre l (tagL ++ [45])) := by
  constructor
  · rintro h (h1 | h1)
    · exact h 0 (by decide) h1
    · exact h 1 (by decide) h1
  · intro h j hj h1
    rcases (by omega : j = 0 ∨ j = 1) with rfl | rfl
    · exact h (.inl h1)
    · exact h (.inr h1)

set_option maxRecDepth 100000 in
set_option maxHeartbeats 4000000 in
theorem lawRefValid_any (s : ByteArray) (a : Addr) (msg : ByteArray) (w : World) (hm : s.size ≤ maxLen) (hv : ErrAt w 0 a msg) :
    Calls Tryd.prog 4 #[.string s] w fun e w' => e = .returned (.bool true) ∧ Below w.heap.size w w' := by
  have HV := Lib.hid hv
  clear hv
  unfold maxLen at hm
  by_cases h1 : (2147483647 : Int) < s.size
  · go_enter Tryd.func4, Tryd.ntmps4
    go_wp2
    go_ret
    exact ⟨rfl, Below.refl _ _⟩
  have h1i : (s.size : Int) ≤ 2147483647 := by omega
  by_cases h2 : (100 : Int) < s.size
  · go_enter Tryd.func4, Tryd.ntmps4
    go_wp2
    go_ret
    exact ⟨rfl, Below.refl _ _⟩
  have h2i : (s.size : Int) ≤ 100 := by omega
  have hs : s.size ≤ 1000 := by omega
  clear h1 h2
  go_enter Tryd.func4, Tryd.ntmps4
  go_wp2_with fail
  with_reducible refine (RefAt_any s _ hs).mono ?_
  rintro e w1 ⟨T, rfl, hT, hb1⟩
  have HT := Lib.hid hT
  have HB1 := Lib.hid hb1
  clear hT hb1
  cases T with
  | true =>
    go_wp2
    go_ret
    exact ⟨rfl, HB1.out⟩
  | false =>
  have HAT : Hid (∀ p ∈ parts (nb s), p ≠ [64]) := Lib.hid (fun p hp h => by have := HT.out.mpr ⟨p, hp, h⟩; cases this)
  clear HT
  go_wp2_with fail
  with_reducible refine (RefValid_any s _ hs).mono ?_
  rintro e w2 ⟨B0, rfl, hB0, hb2⟩
  have HB0 := Lib.hid hB0
  have HB2 : Hid (Below w.heap.size w w2) := Lib.hid (HB1.out.trans (hb2.mono HB1.out.size))
  clear hB0 hb2 HB1
  go_upto_region 7 with (fail)
  generalize hW : w2.alloc _ = w3
  have HB3 : Hid (Below w.heap.size w w3) := Lib.hid (by subst hW; exact HB2.out.alloc HB2.out.size _)
  have HC3 : Hid (∀ i, i < 2 → w3.cell? ⟨w2.heap.size, i, none⟩ = some (.string (hyL.getD i ⟨#[]⟩))) := Lib.hid fun i hi => by
    subst hW
    rcases (by omega : i = 0 ∨ i = 1) with rfl | rfl <;> exact World.cell?_alloc_mark w2 _ _ _ _
  clear hW HB2
  go_loop [3, 5, 20] (fun b _ i => ∃ (k : Nat) (B : Bool), k ≤ 2 ∧ i = .int .i64 k ∧ b = .bool B ∧ (B = true ↔ (B0 = true ∧ ∀ j, j < k → ¬ Pre (nb s) (nb (hyL.getD j ⟨#[]⟩))))) (fun _ _ i => 2 - (intOf i).toNat)
  case atStart => exact ⟨0, B0, by omega, rfl, rfl, ⟨fun h => ⟨h, fun j hj => by omega⟩, fun h => h.1⟩⟩
  case round =>
    obtain ⟨k, B, hk, rfl, rfl, hB⟩ := hrel
    have HBK := Lib.hid hB; clear hB
    by_cases hlt : k < 2
    · have hlti : (k : Int) < 2 := by omega
      have hcell := HC3.out k hlt
      have hz := hy_size k
      generalize hh : hyL.getD k ⟨#[]⟩ = h at hcell hz
      have HH := Lib.hid hh; clear hh
      have HSTEP : Hid (∀ B2 : Bool, (B2 = true ↔ (B = true ∧ ¬ Pre (nb s) (nb h))) → (B2 = true ↔ (B0 = true ∧ ∀ j, j < k + 1 → ¬ Pre (nb s) (nb (hyL.getD j ⟨#[]⟩))))) := Lib.hid (fun B2 hB2 => by
        rw [hB2, HBK.out]
        constructor
        · rintro ⟨⟨h1, h2⟩, h3⟩
          refine ⟨h1, fun j hj => ?_⟩
          by_cases e : j = k
          · subst e; rw [HH.out]; exact h3
          · exact h2 j (by omega)
        · rintro ⟨h1, h2⟩
          exact ⟨⟨h1, fun j hj => h2 j (by omega)⟩, by rw [← HH.out]; exact h2 k (by omega)⟩)
      by_cases hle : h.size ≤ s.size
      · have hle' : (h.size : Int) ≤ s.size := by omega
        have hq := beq_str2 (s.extract 0 h.size) h
        have HQ := Lib.hid (pre_iff s h hle)
        cases hB : (nb (s.extract 0 h.size) == nb h) with
        | true =>
          rw [hB] at hq
          have HP : Hid (Pre (nb s) (nb h)) := Lib.hid (HQ.out.mpr (beq_iff_eq.mp hB))
          clear hB
          go_wp2
          go_round
          case rel => exact ⟨k + 1, false, by omega, by go_num, rfl, HSTEP.out false ⟨fun h => (by cases h), fun h => absurd HP.out h.2⟩⟩
          case measure => simp [intOf]; omega
        | false =>
          rw [hB] at hq
          have HP : Hid (¬ Pre (nb s) (nb h)) := Lib.hid (fun h => by rw [HQ.out.mp h] at hB; simp at hB)
          clear hB
          go_wp2
          go_round
          case rel => exact ⟨k + 1, B, by omega, by go_num, rfl, HSTEP.out B ⟨fun h => ⟨h, HP.out⟩, fun h => h.1⟩⟩
          case measure => simp [intOf]; omega
      · have hle' : (s.size : Int) < h.size := by omega
        have HP : Hid (¬ Pre (nb s) (nb h)) := Lib.hid (fun h => hle (pre_le h))
        go_wp2
        go_round
        case rel => exact ⟨k + 1, B, by omega, by go_num, rfl, HSTEP.out B ⟨fun h => ⟨h, HP.out⟩, fun h => h.1⟩⟩
        case measure => simp [intOf]; omega
    · have hlti : (2 : Int) ≤ k := by omega
      have HBB : Hid (B = true ↔ (ValidS (nb s) ∧ ¬ (Pre (nb s) (branchL ++ [45]) ∨ Pre (nb s) (tagL ++ [45])))) := Lib.hid (by
        rw [HBK.out, show k = 2 by omega, HB0.out, hy_all])
      clear HBK HB0 HC3
      go_wp2_with fail
      with_reducible refine (NameOf_any s a msg _ hs (HV.out.below HB3.out)).mono ?_
      rintro e w4 ⟨b1, b2, b3, b4, sf, sh, er, rfl, _, her, hb4⟩
      have hfl := name_err b1 b2 b3 b4 sf sh er w4
      have HB4 : Hid (Below w.heap.size w w4) := Lib.hid (HB3.out.trans (hb4.mono HB3.out.size))
      have HER : Hid (er.size = 0 ↔ ((ValidS (nb s) ∧ ¬ (Pre (nb s) (branchL ++ [45]) ∨ Pre (nb s) (tagL ++ [45]))) ∨ nb s = headL)) := Lib.hid (her.trans (valid_law (nb s) HAT.out))
      clear her hb4 HAT HB3
      have hq := beq_str s [72, 69, 65, 68]
      cases B with
      | true =>
        have h0 : er.size = 0 := HER.out.mpr (.inl (HBB.out.mp rfl))
        have he := isEmpty_str er h0
        clear hq h0 HER HBB
        go_wp2_with fail
        with_reducible refine (gitAwake_any _).mono ?_
        rintro e w5 ⟨rfl, hb5⟩
        have HB5 : Hid (Below w.heap.size w w5) := Lib.hid (HB4.out.trans (hb5.mono HB4.out.size))
        clear hb5
        go_wp2
        go_ret
        exact ⟨rfl, HB5.out⟩
      | false =>
        cases hH : (nb s == ([72, 69, 65, 68] : List UInt8).map UInt8.toNat) with
        | true =>
          rw [hH] at hq
          have h0 : er.size = 0 := HER.out.mpr (.inr (beq_iff_eq.mp hH))
          have he := isEmpty_str er h0
          clear hH h0 HER HBB
          go_wp2_with fail
          with_reducible refine (gitAwake_any _).mono ?_
          rintro e w5 ⟨rfl, hb5⟩
          have HB5 : Hid (Below w.heap.size w w5) := Lib.hid (HB4.out.trans (hb5.mono HB4.out.size))
          clear hb5
          go_wp2
          go_ret
          exact ⟨rfl, HB5.out⟩
        | false =>
          rw [hH] at hq
          have h0 : er.size ≠ 0 := fun h => by
            rcases HER.out.mp h with h1 | h1
            · have := HBB.out.mpr h1; cases this
            · rw [h1] at hH; exact absurd hH (by decide)
          have he := isEmpty_str_not er h0
          clear hH h0 HER HBB
          go_wp2_with fail
          with_reducible refine (gitAwake_any _).mono ?_
          rintro e w5 ⟨rfl, hb5⟩
          have HB5 : Hid (Below w.heap.size w w5) := Lib.hid (HB4.out.trans (hb5.mono HB4.out.size))
          clear hb5
          go_wp2
          go_ret
          exact ⟨rfl, HB5.out⟩
end Go.Proofs.YtnhegjjegamdfaaDoor
