/- Words: spec.IsLineWord. -/
import Derived.Test.YteipeagdflcjjaaDoorLib
namespace Go.Proofs.YteipeagdflcjjaaDoor
open Go.RowKit
set_option linter.unusedSimpArgs false
set_option linter.unusedVariables false

/-- One byte of a word of n bytes. -/
def WordAt (n i c : Nat) : Prop := (97 ≤ c ∧ c ≤ 122) ∨ (i ≠ 0 ∧ i ≠ n - 1 ∧ ((48 ≤ c ∧ c ≤ 57) ∨ c = 46 ∨ c = 45))
def IsWord (s : ByteArray) : Prop := (∀ i, i < s.size → WordAt s.size i (bx s i)) ∧ 1 ≤ s.size ∧ s.size ≤ 30

def WordPost (s : ByteArray) (w : World) (e : Ending) (w' : World) : Prop := ∃ b : Bool, e = .returned (.bool b) ∧ (b = true ↔ IsWord s) ∧ w = w'

theorem word_no {s : ByteArray} {k : Nat} (hk : k < s.size) (h : ¬ WordAt s.size k (bx s k)) : (false = true ↔ IsWord s) :=
  ⟨fun h => absurd h (by decide), fun hw => absurd (hw.1 k hk) h⟩

set_option maxHeartbeats 1000000 in
theorem isWord_any (s : ByteArray) (w : World) (hs : s.size ≤ maxLen) :
    Calls Tryd.prog 27 #[.string s] w (WordPost s w) := by
  unfold maxLen at hs
  go_enter Tryd.func27, Tryd.ntmps27
  go_wp2
  go_loop [7] (fun i => ∃ k : Nat, k ≤ s.size ∧ i = .int .i64 k ∧ ∀ j, j < k → WordAt s.size j (bx s j)) (fun i => s.size - (intOf i).toNat)
  case atStart => exact ⟨0, Nat.zero_le _, rfl, fun j h => by omega⟩
  case round =>
    obtain ⟨k, hk, rfl, hall⟩ := hrel
    have HA := Lib.hid hall; clear hall
    by_cases hlt : k < s.size
    · have hb := bx_get s k hlt
      have hb2 := bx_lt s k
      generalize hbb : bx s k = c at hb hb2
      have HB := Lib.hid hbb; clear hbb
      go_wp2
      all_goals first
        | (go_ret
           refine ⟨false, rfl, word_no hlt ?_, rfl⟩
           rw [HB.out]
           try simp only [bne_iff_ne, ne_eq, bne_eq_false_iff_eq] at *
           unfold WordAt
           omega)
        | (go_round
           case rel =>
             refine ⟨k + 1, by omega, by go_num, fun j hj => ?_⟩
             by_cases e : j = k
             · subst e
               rw [HB.out]
               try simp only [bne_iff_ne, ne_eq, bne_eq_false_iff_eq] at *
               unfold WordAt
               omega
             · exact HA.out j (by omega)
           case measure => simp [intOf]; omega)
    · by_cases h1 : (1 : Int) ≤ s.size
      · go_wp2
        go_ret
        refine ⟨_, rfl, ?_, rfl⟩
        rw [decide_eq_true_iff]
        exact ⟨fun h => ⟨fun i hi => HA.out i (by omega), by omega, by omega⟩, fun h => by have := h.2.2; omega⟩
      · have h1' : (s.size : Int) < 1 := by omega
        go_wp2
        go_ret
        exact ⟨false, rfl, ⟨fun h => absurd h (by decide), fun h => absurd h.2.1 (by omega)⟩, rfl⟩

def wordAtB (n i c : Nat) : Bool := decide ((97 ≤ c ∧ c ≤ 122) ∨ (i ≠ 0 ∧ i ≠ n - 1 ∧ ((48 ≤ c ∧ c ≤ 57) ∨ c = 46 ∨ c = 45)))
def wordB (s : ByteArray) : Bool := (List.range s.size).all (fun i => wordAtB s.size i (bx s i)) && (decide (1 ≤ s.size) && decide (s.size ≤ 30))
theorem wordB_iff (s : ByteArray) : wordB s = true ↔ IsWord s := by
  unfold wordB IsWord
  simp only [Bool.and_eq_true, decide_eq_true_eq, List.all_eq_true, List.mem_range]
  refine and_congr ?_ Iff.rfl
  refine forall_congr' fun i => imp_congr_right fun _ => ?_
  unfold wordAtB WordAt
  exact decide_eq_true_iff
theorem isWord_b (s : ByteArray) (w : World) (hs : s.size ≤ maxLen) :
    Calls Tryd.prog 27 #[.string s] w fun e w' => e = .returned (.bool (wordB s)) ∧ w = w' := by
  refine (isWord_any s w hs).mono ?_
  rintro e w' ⟨b, rfl, hb, rfl⟩
  refine ⟨ret_bool ?_, rfl⟩
  rw [Bool.eq_iff_iff, hb, wordB_iff]
/-- A tail: a word or none. -/
theorem tail_small {s : ByteArray} (h : s.toList.isEmpty = true ∨ wordB s = true) : s.size ≤ 30 := by
  rcases h with h | h
  · by_cases h0 : s.size = 0
    · omega
    · rw [isEmpty_str_not s h0] at h; cases h
  · exact ((wordB_iff s).mp h).2.2
end Go.Proofs.YteipeagdflcjjaaDoor
