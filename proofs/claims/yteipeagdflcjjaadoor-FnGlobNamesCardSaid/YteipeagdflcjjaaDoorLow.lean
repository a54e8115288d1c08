/- Small letters: asciiToLower, zzLower, confLower. -/
import Derived.Test.YteipeagdflcjjaaDoorLib
namespace Go.Proofs.YteipeagdflcjjaaDoor
open Go.RowKit

set_option maxHeartbeats 400000 in
theorem low_any (c : Nat) (h1 : c < 256) (w : World) :
    Calls Tryd.prog 70 #[.int .u8 c] w fun e w' => e = .returned (.int .u8 (lowN c)) ∧ w = w' := by
  go_enter Tryd.func70, Tryd.ntmps70
  go_wp2
  all_goals (go_ret; refine ⟨ret_int ?_, rfl⟩; unfold lowN; first | (rw [if_pos (by omega)]; omega) | (rw [if_neg (by omega)]))

theorem low_same (c : Nat) (h1 : c < 256) (w : World) :
    Calls Tryd.prog 70 #[.int .u8 c] w fun e w' => e = .returned (.int .u8 (lowN c)) ∧ w' = w :=
  (low_any c h1 w).mono fun _ _ h => ⟨h.1, h.2.symm⟩

/-- What a loop over a row of bytes that turns each into a small letter comes to. -/
theorem low_done {s : ByteArray} {k : Nat} (hk : k ≤ s.size) (h : ¬ k < s.size) : nb (strOfNums ((List.range s.size).map fun j => ((if j < k then lowN (bx s j) else bx s j : Nat) : Int))) = lowS (nb s) := by
  have e : ((List.range s.size).map fun j => ((if j < k then lowN (bx s j) else bx s j : Nat) : Int)) = (lowS (nb s)).map fun c : Nat => (c : Int) := by
    refine List.ext_getElem (by simp [lowS, nb_length]) fun i h1 h2 => ?_
    have hi : i < s.size := by simpa using h1
    simp [lowS, bx_getElem]
    rw [if_pos (by omega)]
  rw [e, nb_strOfNums]
  intro c hc
  simp only [lowS, List.mem_map] at hc
  obtain ⟨a, ha, rfl⟩ := hc
  exact lowN_lt (nb_lt ha)

set_option maxHeartbeats 400000 in
theorem zzLower_any (s : ByteArray) (w : World) (hs : s.size ≤ maxLen) :
    Calls Tryd.prog 68 #[.string s] w fun e w' => ∃ r : ByteArray, e = .returned (.string r) ∧ nb r = lowS (nb s) ∧ Below w.heap.size w w' := by
  unfold maxLen at hs
  have hconv := Lib.run_convert_string_bytes (P := Tryd.prog) w 9 99 5 s strKind bytesKind byteKind
  have HB := Lib.hid (bytesBelow w 5 s)
  have HS := Lib.hid (Lib.bytesWorld_size w 5 s)
  have HA := Lib.hid (bytesAt_new w 5 s)
  go_enter Tryd.func68, Tryd.ntmps68
  go_wp2
  generalize Lib.bytesWorld w 5 s = w1 at HB HS HA
  clear hconv
  go_loopw [9] (fun i wr => ∃ k : Nat, k ≤ s.size ∧ i = .int .i64 k ∧ Below w.heap.size w wr ∧ wr.heap.size = w.heap.size + 1 ∧ BytesAt wr w.heap.size s.size (fun j => if j < k then lowN (bx s j) else bx s j)) (fun i _ => s.size - (intOf i).toNat)
  case atStart => exact ⟨0, Nat.zero_le _, rfl, HB.out, HS.out, by simpa using HA.out⟩
  case round =>
    obtain ⟨k, hk, rfl, hbw, hsw, hat⟩ := hrel
    have HB2 := Lib.hid hbw; clear hbw
    have HS2 := Lib.hid hsw; clear hsw
    by_cases hlt : k < s.size
    · obtain ⟨hcell, hfr⟩ := hat k hlt
      simp only [Nat.lt_irrefl, if_false] at hcell
      have hx := bx_lt s k
      generalize hxx : bx s k = x at hcell hx
      have HX := Lib.hid hxx; clear hxx
      have HA2 := Lib.hid hat; clear hat
      go_wp2_with (go_at_call 70; refine (low_any _ (by omega) _).mono ?_; rintro e w' ⟨rfl, rfl⟩)
      go_roundw
      case rel =>
        refine ⟨k + 1, by omega, by go_num, HB2.out.setCell (Nat.le_refl _) _, (size_setCell _ _ _).trans HS2.out, (HA2.out.set _).congr fun j hj => ?_⟩
        have hx := HX.out
        by_cases e : j = k
        · subst e; rw [if_pos rfl, if_pos (by omega), hx]
        · rw [if_neg e]
          by_cases e2 : j < k
          · rw [if_pos e2, if_pos (by omega)]
          · rw [if_neg e2, if_neg (by omega)]
      case measure => simp [intOf]; omega
    · have hc := hat.str (grownCap w s.size 0 5)
      have HA2 := Lib.hid hat; clear hat
      go_wp2
      go_ret
      exact ⟨_, rfl, low_done hk hlt, HB2.out⟩

end Go.Proofs.YteipeagdflcjjaaDoor
