/- Short; IsBranch, IsNote, IsRemote, IsTag; zzContainsAny. -/
import Derived.Test.YtnhegjjegamdfaaDoorRfR
import Derived.Test.YtnhegjjegamdfaaDoorRfV
namespace Go.Proofs.YtnhegjjegamdfaaDoor
open Go.RowKit
set_option linter.unusedSimpArgs false
set_option linter.unusedVariables false

def ScanPost (w : World) (e : Ending) (w' : World) : Prop := ∃ (t : ByteArray) (B : Bool), e = .returned (.tuple #[.string t, .bool B]) ∧ w = w'
set_option maxRecDepth 100000 in
set_option maxHeartbeats 1000000 in
theorem zzScan_any (s f : ByteArray) (w : World) (hs : s.size ≤ 1000) (hf : f.size ≤ 1000) : Calls Tryd.prog 28 #[.string s, .string f] w (ScanPost w) := by
  go_enter Tryd.func28, Tryd.ntmps28
  go_wp2
  go_loop [6] (fun i => ∃ k : Nat, k ≤ f.size ∧ i = .int .i64 k) (fun i => f.size - (intOf i).toNat)
  case atStart => exact ⟨0, Nat.zero_le _, rfl⟩
  case round =>
    obtain ⟨k, hk, rfl⟩ := hrel
    by_cases hgo : k + 1 < f.size ∧ (nb (f.extract k (k + 2)) == ([37, 115] : List UInt8).map UInt8.toNat) = false
    · obtain ⟨h1, h2⟩ := hgo
      have h1i : (k : Int) + 1 < f.size := by omega
      have h1j : (k : Int) + 2 ≤ f.size := by omega
      have hq := beq_str (f.extract k (k + 2)) [37, 115]
      rw [h2] at hq
      clear h2
      go_wp2
      go_round
      case rel => exact ⟨k + 1, by omega, by go_num⟩
      case measure => simp [intOf]; omega
    · have hki : (k : Int) ≤ f.size := by omega
      obtain ⟨hd, hhd⟩ : ∃ hd, hd = f.extract 0 k := ⟨_, rfl⟩
      have hds : hd.size = k := by rw [hhd, ByteArray.size_extract]; omega
      have HHD := Lib.hid hhd
      have hcase : (¬ k + 1 < f.size) ∨ (k + 1 < f.size ∧ (nb (f.extract k (k + 2)) == ([37, 115] : List UInt8).map UInt8.toNat) = true) := by
        by_cases h1 : k + 1 < f.size
        · right
          refine ⟨h1, ?_⟩
          cases hB : (nb (f.extract k (k + 2)) == ([37, 115] : List UInt8).map UInt8.toNat) with
          | true => rfl
          | false => exact absurd ⟨h1, hB⟩ hgo
        · exact .inl h1
      clear hgo
      have hc2 : s.size < hd.size ∨ (hd.size ≤ s.size ∧ (nb (s.extract 0 hd.size) == nb hd) = false) ∨ (hd.size ≤ s.size ∧ (nb (s.extract 0 hd.size) == nb hd) = true) := by
        by_cases h1 : hd.size ≤ s.size
        · cases hB : (nb (s.extract 0 hd.size) == nb hd) with
          | true => exact .inr (.inr ⟨h1, rfl⟩)
          | false => exact .inr (.inl ⟨h1, rfl⟩)
        · exact .inl (by omega)
      have hq2 := beq_str2 (s.extract 0 hd.size) hd
      clear hhd
      rcases hcase with h1 | ⟨h1, h2⟩
      · have h1i : (f.size : Int) ≤ (k : Int) + 1 := by omega
        rcases hc2 with h3 | ⟨h3, h4⟩ | ⟨h3, h4⟩
        · have h3i : (s.size : Int) < hd.size := by omega
          clear hq2
          go_upto_region 5 with (fail)
          rw [← HHD.out]
          go_wp2
          all_goals
            go_ret2
            exact ⟨_, _, rfl, rfl⟩
        · have h3i : (hd.size : Int) ≤ s.size := by omega
          rw [h4] at hq2
          go_upto_region 5 with (fail)
          rw [← HHD.out]
          go_wp2
          all_goals
            go_ret2
            exact ⟨_, _, rfl, rfl⟩
        · have h3i : (hd.size : Int) ≤ s.size := by omega
          rw [h4] at hq2
          go_upto_region 5 with (fail)
          rw [← HHD.out]
          go_wp2
          all_goals
            go_ret2
            exact ⟨_, _, rfl, rfl⟩
      · have h1i : (k : Int) + 1 < f.size := by omega
        have h1j : (k : Int) + 2 ≤ f.size := by omega
        have hq := beq_str (f.extract k (k + 2)) [37, 115]
        rw [h2] at hq
        clear h2
        rcases hc2 with h3 | ⟨h3, h4⟩ | ⟨h3, h4⟩
        · have h3i : (s.size : Int) < hd.size := by omega
          clear hq2
          go_upto_region 5 with (fail)
          rw [← HHD.out]
          go_wp2
          all_goals
            go_ret2
            exact ⟨_, _, rfl, rfl⟩
        · have h3i : (hd.size : Int) ≤ s.size := by omega
          rw [h4] at hq2
          go_upto_region 5 with (fail)
          rw [← HHD.out]
          go_wp2
          all_goals
            go_ret2
            exact ⟨_, _, rfl, rfl⟩
        · have h3i : (hd.size : Int) ≤ s.size := by omega
          rw [h4] at hq2
          go_upto_region 5 with (fail)
          rw [← HHD.out]
          go_wp2
          all_goals
            go_ret2
            exact ⟨_, _, rfl, rfl⟩

def ruleL : List ByteArray := [⟨#[37, 115]⟩, ⟨#[114, 101, 102, 115, 47, 37, 115]⟩, ⟨#[114, 101, 102, 115, 47, 116, 97, 103, 115, 47, 37, 115]⟩, ⟨#[114, 101, 102, 115, 47, 104, 101, 97, 100, 115, 47, 37, 115]⟩, ⟨#[114, 101, 102, 115, 47, 114, 101, 109, 111, 116, 101, 115, 47, 37, 115]⟩, ⟨#[114, 101, 102, 115, 47, 114, 101, 109, 111, 116, 101, 115, 47, 37, 115, 47, 72, 69, 65, 68]⟩]
theorem rule_size (k : Nat) : (ruleL.getD k ⟨#[]⟩).size ≤ 1000 := by
  by_cases h : k < 6
  · rcases (by omega : k = 0 ∨ k = 1 ∨ k = 2 ∨ k = 3 ∨ k = 4 ∨ k = 5) with rfl | rfl | rfl | rfl | rfl | rfl <;> decide
  · rw [List.getD_eq_getElem?_getD, List.getElem?_eq_none (by simp [ruleL]; omega)]; decide
def RulesPost (w : World) (e : Ending) (w' : World) : Prop :=
  e = .returned (.slice (some ⟨w.heap.size, 0, none⟩) 6 6) ∧ (∀ i, i < 6 → w'.cell? ⟨w.heap.size, i, none⟩ = some (.string (ruleL.getD i ⟨#[]⟩))) ∧ Below w.heap.size w w'
set_option maxHeartbeats 1000000 in
theorem rules_any (w : World) : Calls Tryd.prog 27 #[] w (RulesPost w) := by
  go_enter Tryd.func27, Tryd.ntmps27
  go_wp2
  go_ret
  refine ⟨rfl, fun i hi => ?_, (Below.refl _ _).alloc (Nat.le_refl _) _⟩
  rcases (by omega : i = 0 ∨ i = 1 ∨ i = 2 ∨ i = 3 ∨ i = 4 ∨ i = 5) with rfl | rfl | rfl | rfl | rfl | rfl <;> exact World.cell?_alloc_mark w _ _ (0, 0) _
def AnyStr (w : World) (e : Ending) (w' : World) : Prop := ∃ t : ByteArray, e = .returned (.string t) ∧ Below w.heap.size w w'
set_option maxRecDepth 100000 in
set_option maxHeartbeats 1000000 in
theorem Short_any (s : ByteArray) (w : World) (hs : s.size ≤ 1000) : Calls Tryd.prog 15 #[.string s] w (AnyStr w) := by
  go_enter Tryd.func15, Tryd.ntmps15
  go_wp2_with fail
  with_reducible refine (rules_any _).mono ?_
  rintro e w1 ⟨rfl, hc, hb⟩
  have HC := Lib.hid hc; have HB := Lib.hid hb
  clear hc hb
  go_wp2
  go_loop [4, 6, 7, 8, 14] (fun r _ _ _ i => ∃ (k : Nat) (t : ByteArray), k ≤ 5 ∧ i = .int .i64 k ∧ r = .string t) (fun _ _ _ _ i => 5 - (intOf i).toNat)
  case atStart => exact ⟨0, _, by omega, rfl, rfl⟩
  case round =>
    obtain ⟨k, t, hk, rfl, rfl⟩ := hrel
    by_cases hlt : k < 5
    · have hlti : (k : Int) < 5 := by omega
      have hcell := HC.out (1 + k) (by omega)
      have hz := rule_size (1 + k)
      generalize ruleL.getD (1 + k) ⟨#[]⟩ = f at hcell hz
      go_wp2_with fail
      with_reducible refine (zzScan_any s f _ (by omega) (by omega)).mono ?_
      rintro e w2 ⟨t2, B, rfl, rfl⟩
      cases B with
      | true =>
        go_wp2
        go_round
        case rel => exact ⟨k + 1, _, by omega, by go_num, rfl⟩
        case measure => simp [intOf]; omega
      | false =>
        go_wp2
        go_round
        case rel => exact ⟨k + 1, _, by omega, by go_num, rfl⟩
        case measure => simp [intOf]; omega
    · have hlti : (5 : Int) ≤ k := by omega
      go_wp2
      go_ret
      exact ⟨t, rfl, HB.out⟩

set_option maxHeartbeats 400000 in
theorem IsBranch_any (s : ByteArray) (w : World) (hs : s.size ≤ 1000) : Calls Tryd.prog 10 #[.string s] w (BoolPost (Pre (nb s) [114, 101, 102, 115, 47, 104, 101, 97, 100, 115, 47]) w) := by
  go_enter Tryd.func10, Tryd.ntmps10
  go_wp2_with fail
  with_reducible refine (hasPrefix_p s ⟨#[114, 101, 102, 115, 47, 104, 101, 97, 100, 115, 47]⟩ _ (by omega) (by decide)).mono ?_
  rintro e w' ⟨B, rfl, hB, rfl⟩
  have HB : Hid (B = true ↔ Pre (nb s) [114, 101, 102, 115, 47, 104, 101, 97, 100, 115, 47]) := Lib.hid hB
  clear hB
  go_wp2
  go_ret
  exact ⟨B, rfl, HB.out, rfl⟩

set_option maxHeartbeats 400000 in
theorem IsNote_any (s : ByteArray) (w : World) (hs : s.size ≤ 1000) : Calls Tryd.prog 11 #[.string s] w (BoolPost (Pre (nb s) [114, 101, 102, 115, 47, 110, 111, 116, 101, 115, 47]) w) := by
  go_enter Tryd.func11, Tryd.ntmps11
  go_wp2_with fail
  with_reducible refine (hasPrefix_p s ⟨#[114, 101, 102, 115, 47, 110, 111, 116, 101, 115, 47]⟩ _ (by omega) (by decide)).mono ?_
  rintro e w' ⟨B, rfl, hB, rfl⟩
  have HB : Hid (B = true ↔ Pre (nb s) [114, 101, 102, 115, 47, 110, 111, 116, 101, 115, 47]) := Lib.hid hB
  clear hB
  go_wp2
  go_ret
  exact ⟨B, rfl, HB.out, rfl⟩

set_option maxHeartbeats 400000 in
theorem IsRemote_any (s : ByteArray) (w : World) (hs : s.size ≤ 1000) : Calls Tryd.prog 12 #[.string s] w (BoolPost (Pre (nb s) [114, 101, 102, 115, 47, 114, 101, 109, 111, 116, 101, 115, 47]) w) := by
  go_enter Tryd.func12, Tryd.ntmps12
  go_wp2_with fail
  with_reducible refine (hasPrefix_p s ⟨#[114, 101, 102, 115, 47, 114, 101, 109, 111, 116, 101, 115, 47]⟩ _ (by omega) (by decide)).mono ?_
  rintro e w' ⟨B, rfl, hB, rfl⟩
  have HB : Hid (B = true ↔ Pre (nb s) [114, 101, 102, 115, 47, 114, 101, 109, 111, 116, 101, 115, 47]) := Lib.hid hB
  clear hB
  go_wp2
  go_ret
  exact ⟨B, rfl, HB.out, rfl⟩

set_option maxHeartbeats 400000 in
theorem IsTag_any (s : ByteArray) (w : World) (hs : s.size ≤ 1000) : Calls Tryd.prog 13 #[.string s] w (BoolPost (Pre (nb s) [114, 101, 102, 115, 47, 116, 97, 103, 115, 47]) w) := by
  go_enter Tryd.func13, Tryd.ntmps13
  go_wp2_with fail
  with_reducible refine (hasPrefix_p s ⟨#[114, 101, 102, 115, 47, 116, 97, 103, 115, 47]⟩ _ (by omega) (by decide)).mono ?_
  rintro e w' ⟨B, rfl, hB, rfl⟩
  have HB : Hid (B = true ↔ Pre (nb s) [114, 101, 102, 115, 47, 116, 97, 103, 115, 47]) := Lib.hid hB
  clear hB
  go_wp2
  go_ret
  exact ⟨B, rfl, HB.out, rfl⟩
end Go.Proofs.YtnhegjjegamdfaaDoor
