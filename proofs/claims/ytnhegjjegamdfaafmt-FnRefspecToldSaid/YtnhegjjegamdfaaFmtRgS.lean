/- Sides of a refspec: spec.IsSpecSide, zzFits8, IsRefspec, RefspecText. -/
import Derived.Test.YtnhegjjegamdfaaFmtRgA
namespace Go.Proofs.YtnhegjjegamdfaaFmt
open Go.RowKit
set_option linter.unusedSimpArgs false
set_option linter.unusedVariables false

def sideC (c : Nat) : Prop := (97 ≤ c ∧ c ≤ 122) ∨ (65 ≤ c ∧ c ≤ 90) ∨ (48 ≤ c ∧ c ≤ 57) ∨ c = 47 ∨ c = 46 ∨ c = 45
def IsSide (s : ByteArray) : Prop := s.size ≤ 30 ∧ ∀ j, j < s.size → sideC (bx s j)
theorem IsSide.mem {s : ByteArray} (h : IsSide s) {c : Nat} (hc : c ∈ nb s) : sideC c := by
  obtain ⟨j, hj, rfl⟩ := List.mem_iff_getElem.mp hc
  rw [bx_getElem]
  rw [nb_length] at hj
  exact h.2 j hj

set_option maxRecDepth 100000 in
set_option maxHeartbeats 2000000 in
theorem IsSpecSide_any (s : ByteArray) (w : World) (hs : s.size ≤ 2147483647) : Calls Tryf.prog 7 #[.string s] w (BoolPost (IsSide s) w) := by
  by_cases h30 : (30 : Int) < s.size
  · go_enter Tryf.func7, Tryf.ntmps7
    go_wp2
    go_ret
    exact ⟨false, rfl, ⟨fun h => (by cases h), fun h => (by have := h.1; omega)⟩, rfl⟩
  have h30i : (s.size : Int) ≤ 30 := by omega
  go_enter Tryf.func7, Tryf.ntmps7
  go_wp2
  go_loop [3, 4, 10] (fun _ _ i => ∃ k : Nat, k ≤ s.size ∧ i = .int .i64 k ∧ ∀ j, j < k → sideC (bx s j)) (fun _ _ i => s.size - (intOf i).toNat)
  case atStart => exact ⟨0, Nat.zero_le _, rfl, fun j h => by omega⟩
  case round =>
    obtain ⟨k, hk, rfl, hall⟩ := hrel
    have HA := Lib.hid hall; clear hall
    by_cases hlt : k < s.size
    · have hlti : (k : Int) < s.size := by omega
      have hb := bx_get s k hlt
      have hb2 := bx_lt s k
      generalize hbb : bx s k = c at hb hb2
      have HB := Lib.hid hbb; clear hbb
      have hreg : (c < 45) ∨ (c = 45) ∨ (c = 46) ∨ (c = 47) ∨ (48 ≤ c ∧ c ≤ 57) ∨ (58 ≤ c ∧ c ≤ 64) ∨ (65 ≤ c ∧ c ≤ 90) ∨ (91 ≤ c ∧ c ≤ 96) ∨ (97 ≤ c ∧ c ≤ 122) ∨ (123 ≤ c) := by omega
      rcases hreg with hr | hr | hr | hr | hr | hr | hr | hr | hr | hr
      · have g97 : (c : Int) < 97 := by omega
        have g65 : (c : Int) < 65 := by omega
        have g48 : (c : Int) < 48 := by omega
        have l122 : (c : Int) ≤ 122 := by omega
        have l90 : (c : Int) ≤ 90 := by omega
        have l57 : (c : Int) ≤ 57 := by omega
        have q47 : ((c : Int) == 47) = false := beq_eq_false_iff_ne.mpr (by omega)
        have q46 : ((c : Int) == 46) = false := beq_eq_false_iff_ne.mpr (by omega)
        have q45 : ((c : Int) == 45) = false := beq_eq_false_iff_ne.mpr (by omega)
        have hc : ¬ sideC c := by unfold sideC; omega
        have HCC := Lib.hid hc
        clear hc hr
        go_wp2
        try any_goals (exfalso; omega)
        go_ret
        exact ⟨false, rfl, ⟨fun h => (by cases h), fun h => (by have hx := h.2 k hlt; rw [HB.out] at hx; exact absurd hx HCC.out)⟩, rfl⟩
      · have g97 : (c : Int) < 97 := by omega
        have g65 : (c : Int) < 65 := by omega
        have g48 : (c : Int) < 48 := by omega
        have l122 : (c : Int) ≤ 122 := by omega
        have l90 : (c : Int) ≤ 90 := by omega
        have l57 : (c : Int) ≤ 57 := by omega
        have q47 : ((c : Int) == 47) = false := beq_eq_false_iff_ne.mpr (by omega)
        have q46 : ((c : Int) == 46) = false := beq_eq_false_iff_ne.mpr (by omega)
        have q45 : ((c : Int) == 45) = true := beq_iff_eq.mpr (by omega)
        have hc : sideC c := by unfold sideC; omega
        have HCC := Lib.hid hc
        clear hc hr
        go_wp2
        try any_goals (exfalso; omega)
        go_round
        case rel =>
          refine ⟨k + 1, by omega, by go_num, fun j hj => ?_⟩
          by_cases e : j = k
          · subst e; rw [HB.out]; exact HCC.out
          · exact HA.out j (by omega)
        case measure => simp [intOf]; omega
      · have g97 : (c : Int) < 97 := by omega
        have g65 : (c : Int) < 65 := by omega
        have g48 : (c : Int) < 48 := by omega
        have l122 : (c : Int) ≤ 122 := by omega
        have l90 : (c : Int) ≤ 90 := by omega
        have l57 : (c : Int) ≤ 57 := by omega
        have q47 : ((c : Int) == 47) = false := beq_eq_false_iff_ne.mpr (by omega)
        have q46 : ((c : Int) == 46) = true := beq_iff_eq.mpr (by omega)
        have q45 : ((c : Int) == 45) = false := beq_eq_false_iff_ne.mpr (by omega)
        have hc : sideC c := by unfold sideC; omega
        have HCC := Lib.hid hc
        clear hc hr
        go_wp2
        try any_goals (exfalso; omega)
        go_round
        case rel =>
          refine ⟨k + 1, by omega, by go_num, fun j hj => ?_⟩
          by_cases e : j = k
          · subst e; rw [HB.out]; exact HCC.out
          · exact HA.out j (by omega)
        case measure => simp [intOf]; omega
      · have g97 : (c : Int) < 97 := by omega
        have g65 : (c : Int) < 65 := by omega
        have g48 : (c : Int) < 48 := by omega
        have l122 : (c : Int) ≤ 122 := by omega
        have l90 : (c : Int) ≤ 90 := by omega
        have l57 : (c : Int) ≤ 57 := by omega
        have q47 : ((c : Int) == 47) = true := beq_iff_eq.mpr (by omega)
        have q46 : ((c : Int) == 46) = false := beq_eq_false_iff_ne.mpr (by omega)
        have q45 : ((c : Int) == 45) = false := beq_eq_false_iff_ne.mpr (by omega)
        have hc : sideC c := by unfold sideC; omega
        have HCC := Lib.hid hc
        clear hc hr
        go_wp2
        try any_goals (exfalso; omega)
        go_round
        case rel =>
          refine ⟨k + 1, by omega, by go_num, fun j hj => ?_⟩
          by_cases e : j = k
          · subst e; rw [HB.out]; exact HCC.out
          · exact HA.out j (by omega)
        case measure => simp [intOf]; omega
      · have g97 : (c : Int) < 97 := by omega
        have g65 : (c : Int) < 65 := by omega
        have g48 : (48 : Int) ≤ c := by omega
        have l122 : (c : Int) ≤ 122 := by omega
        have l90 : (c : Int) ≤ 90 := by omega
        have l57 : (c : Int) ≤ 57 := by omega
        have q47 : ((c : Int) == 47) = false := beq_eq_false_iff_ne.mpr (by omega)
        have q46 : ((c : Int) == 46) = false := beq_eq_false_iff_ne.mpr (by omega)
        have q45 : ((c : Int) == 45) = false := beq_eq_false_iff_ne.mpr (by omega)
        have hc : sideC c := by unfold sideC; omega
        have HCC := Lib.hid hc
        clear hc hr
        go_wp2
        try any_goals (exfalso; omega)
        go_round
        case rel =>
          refine ⟨k + 1, by omega, by go_num, fun j hj => ?_⟩
          by_cases e : j = k
          · subst e; rw [HB.out]; exact HCC.out
          · exact HA.out j (by omega)
        case measure => simp [intOf]; omega
      · have g97 : (c : Int) < 97 := by omega
        have g65 : (c : Int) < 65 := by omega
        have g48 : (48 : Int) ≤ c := by omega
        have l122 : (c : Int) ≤ 122 := by omega
        have l90 : (c : Int) ≤ 90 := by omega
        have l57 : (57 : Int) < c := by omega
        have q47 : ((c : Int) == 47) = false := beq_eq_false_iff_ne.mpr (by omega)
        have q46 : ((c : Int) == 46) = false := beq_eq_false_iff_ne.mpr (by omega)
        have q45 : ((c : Int) == 45) = false := beq_eq_false_iff_ne.mpr (by omega)
        have hc : ¬ sideC c := by unfold sideC; omega
        have HCC := Lib.hid hc
        clear hc hr
        go_wp2
        try any_goals (exfalso; omega)
        go_ret
        exact ⟨false, rfl, ⟨fun h => (by cases h), fun h => (by have hx := h.2 k hlt; rw [HB.out] at hx; exact absurd hx HCC.out)⟩, rfl⟩
      · have g97 : (c : Int) < 97 := by omega
        have g65 : (65 : Int) ≤ c := by omega
        have g48 : (48 : Int) ≤ c := by omega
        have l122 : (c : Int) ≤ 122 := by omega
        have l90 : (c : Int) ≤ 90 := by omega
        have l57 : (57 : Int) < c := by omega
        have q47 : ((c : Int) == 47) = false := beq_eq_false_iff_ne.mpr (by omega)
        have q46 : ((c : Int) == 46) = false := beq_eq_false_iff_ne.mpr (by omega)
        have q45 : ((c : Int) == 45) = false := beq_eq_false_iff_ne.mpr (by omega)
        have hc : sideC c := by unfold sideC; omega
        have HCC := Lib.hid hc
        clear hc hr
        go_wp2
        try any_goals (exfalso; omega)
        go_round
        case rel =>
          refine ⟨k + 1, by omega, by go_num, fun j hj => ?_⟩
          by_cases e : j = k
          · subst e; rw [HB.out]; exact HCC.out
          · exact HA.out j (by omega)
        case measure => simp [intOf]; omega
      · have g97 : (c : Int) < 97 := by omega
        have g65 : (65 : Int) ≤ c := by omega
        have g48 : (48 : Int) ≤ c := by omega
        have l122 : (c : Int) ≤ 122 := by omega
        have l90 : (90 : Int) < c := by omega
        have l57 : (57 : Int) < c := by omega
        have q47 : ((c : Int) == 47) = false := beq_eq_false_iff_ne.mpr (by omega)
        have q46 : ((c : Int) == 46) = false := beq_eq_false_iff_ne.mpr (by omega)
        have q45 : ((c : Int) == 45) = false := beq_eq_false_iff_ne.mpr (by omega)
        have hc : ¬ sideC c := by unfold sideC; omega
        have HCC := Lib.hid hc
        clear hc hr
        go_wp2
        try any_goals (exfalso; omega)
        go_ret
        exact ⟨false, rfl, ⟨fun h => (by cases h), fun h => (by have hx := h.2 k hlt; rw [HB.out] at hx; exact absurd hx HCC.out)⟩, rfl⟩
      · have g97 : (97 : Int) ≤ c := by omega
        have g65 : (65 : Int) ≤ c := by omega
        have g48 : (48 : Int) ≤ c := by omega
        have l122 : (c : Int) ≤ 122 := by omega
        have l90 : (90 : Int) < c := by omega
        have l57 : (57 : Int) < c := by omega
        have q47 : ((c : Int) == 47) = false := beq_eq_false_iff_ne.mpr (by omega)
        have q46 : ((c : Int) == 46) = false := beq_eq_false_iff_ne.mpr (by omega)
        have q45 : ((c : Int) == 45) = false := beq_eq_false_iff_ne.mpr (by omega)
        have hc : sideC c := by unfold sideC; omega
        have HCC := Lib.hid hc
        clear hc hr
        go_wp2
        try any_goals (exfalso; omega)
        go_round
        case rel =>
          refine ⟨k + 1, by omega, by go_num, fun j hj => ?_⟩
          by_cases e : j = k
          · subst e; rw [HB.out]; exact HCC.out
          · exact HA.out j (by omega)
        case measure => simp [intOf]; omega
      · have g97 : (97 : Int) ≤ c := by omega
        have g65 : (65 : Int) ≤ c := by omega
        have g48 : (48 : Int) ≤ c := by omega
        have l122 : (122 : Int) < c := by omega
        have l90 : (90 : Int) < c := by omega
        have l57 : (57 : Int) < c := by omega
        have q47 : ((c : Int) == 47) = false := beq_eq_false_iff_ne.mpr (by omega)
        have q46 : ((c : Int) == 46) = false := beq_eq_false_iff_ne.mpr (by omega)
        have q45 : ((c : Int) == 45) = false := beq_eq_false_iff_ne.mpr (by omega)
        have hc : ¬ sideC c := by unfold sideC; omega
        have HCC := Lib.hid hc
        clear hc hr
        go_wp2
        try any_goals (exfalso; omega)
        go_ret
        exact ⟨false, rfl, ⟨fun h => (by cases h), fun h => (by have hx := h.2 k hlt; rw [HB.out] at hx; exact absurd hx HCC.out)⟩, rfl⟩
    · have hlti : (s.size : Int) ≤ k := by omega
      have HY : Hid (IsSide s) := Lib.hid ⟨by omega, fun j hj => HA.out j (by omega)⟩
      go_wp2
      go_ret
      exact ⟨true, rfl, ⟨fun _ => HY.out, fun _ => rfl⟩, rfl⟩
end Go.Proofs.YtnhegjjegamdfaaFmt
