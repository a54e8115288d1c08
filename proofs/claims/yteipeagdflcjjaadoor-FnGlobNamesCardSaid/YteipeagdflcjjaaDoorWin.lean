/- Names of devices: windowsReservedNames, isWindowsReservedName, WindowsValidPath: that they answer. -/
import Derived.Test.YteipeagdflcjjaaDoorHead
import Derived.Test.YteipeagdflcjjaaDoorFold
import Derived.Test.YteipeagdflcjjaaDoorNtfs
import Derived.Test.YteipeagdflcjjaaDoorNames
namespace Go.Proofs.YteipeagdflcjjaaDoor
open Go.RowKit
set_option linter.unusedSimpArgs false
set_option linter.unusedVariables false

def smallStr2 (m : Nat) : Value → Bool | .string s => decide (s.size ≤ m) | _ => false
theorem all_small2 {C : Array Value} {m : Nat} (h : C.all (smallStr2 m) = true) (i : Nat) (hi : i < C.size) : ∃ nm : ByteArray, nm.size ≤ m ∧ C[i]? = some (.string nm) := by
  have h2 := Array.all_eq_true.mp h i hi
  rw [Array.getElem?_eq_getElem hi]
  generalize C[i] = v at h2
  cases v <;> simp [smallStr2] at h2
  exact ⟨_, h2, rfl⟩
set_option maxHeartbeats 400000 in
theorem reserved_any (w : World) :
    Calls Tryd.prog 87 #[] w fun e w' => e = .returned (.slice (some ⟨w.heap.size, 0, none⟩) 24 24) ∧ Below w.heap.size w w' ∧ w.heap.size < w'.heap.size ∧ ∀ i, i < 24 → ∃ nm : ByteArray, nm.size ≤ 7 ∧ w'.cell? ⟨w.heap.size, i, none⟩ = some (.string nm) := by
  go_enter Tryd.func87, Tryd.ntmps87
  go_wp2
  go_ret
  refine ⟨rfl, (Below.refl _ _).alloc (Nat.le_refl _) _, by simp, fun i hi => ?_⟩
  rw [show ∀ C : Array Value, (w.alloc (.cells C 9)).cell? ⟨w.heap.size, i, none⟩ = C[i]? from fun C => World.cell?_alloc_mark _ _ _ _ _]
  exact all_small2 (m := 7) (by kernel_rfl) i hi

set_option maxHeartbeats 1000000 in
theorem isReserved_any (s : ByteArray) (w : World) (hs : s.size ≤ maxLen) :
    Calls Tryd.prog 72 #[.string s] w fun e w' => ∃ b : Bool, e = .returned (.bool b) ∧ Below w.heap.size w w' := by
  unfold maxLen at hs
  go_enter Tryd.func72, Tryd.ntmps72
  go_wp2_with (go_at_call 87; refine (reserved_any _).mono ?_; rintro e w1 ⟨rfl, hb, hlt, hat⟩; have HB := Lib.hid hb; have HAT := Lib.hid hat; clear hb hat)
  go_loopw [7] (fun i wr => ∃ k : Nat, k ≤ 24 ∧ i = .int .i64 k ∧ Below w1.heap.size w1 wr) (fun i _ => 24 - (intOf i).toNat)
  case atStart => exact ⟨0, Nat.zero_le _, rfl, Below.refl _ _⟩
  case round =>
    obtain ⟨k, hk, rfl, hbw⟩ := hrel
    by_cases hk24 : k < 24
    · obtain ⟨nm, hn7, hcell⟩ := HAT.out k hk24
      have hcell2 := (hbw.cell (p := ⟨w.heap.size, k, none⟩) hlt).trans hcell
      have HBW := Lib.hid hbw; clear hbw hcell
      by_cases hle : nm.size ≤ s.size
      · have hle2 : (nm.size : Int) ≤ s.size := by omega
        have hn : nm.size ≤ maxLen := by unfold maxLen; omega
        have hx : (s.extract 0 nm.size).size ≤ maxLen := by rw [ByteArray.size_extract]; unfold maxLen; omega
        go_wp2_with fail
        with_reducible refine (zzFold_any _ _ _ hx hn).mono ?_
        rintro e w' ⟨rfl, n, rfl⟩
        generalize (lowS (nb (s.extract 0 nm.size)) == lowS (nb nm)) = B
        have HBW2 : Hid (Below w1.heap.size w1 (wr.drewN n)) := Lib.hid (below_drewN HBW.out n)
        clear hx hn
        cases B
        · go_wp2
          go_roundw
          case rel => exact ⟨k + 1, by omega, by go_num, HBW2.out⟩
          case measure => simp [intOf]; omega
        · by_cases heq : s.size = nm.size
          · have q : ((s.size : Int) == (nm.size : Int)) = true := by simp [heq]
            have HEQ := Lib.hid heq; clear heq
            go_wp2
            go_ret
            exact ⟨_, rfl, HB.out.trans (HBW2.out.mono (by have := HB.out.size; omega))⟩
          · have q : ((s.size : Int) == (nm.size : Int)) = false := by simp; omega
            have hlt3 : (nm.size : Int) < s.size := by omega
            have HEQ := Lib.hid heq; clear heq
            go_wp2
            all_goals first
              | (go_ret; exact ⟨_, rfl, HB.out.trans (HBW2.out.mono (by have := HB.out.size; omega))⟩)
              | (go_roundw
                 case rel => exact ⟨k + 1, by omega, by go_num, HBW2.out⟩
                 case measure => simp [intOf]; omega)
      · have hle2 : (s.size : Int) < nm.size := by omega
        go_wp2
        go_roundw
        case rel => exact ⟨k + 1, by omega, by go_num, HBW.out⟩
        case measure => simp [intOf]; omega
    · obtain rfl : k = 24 := by omega
      have HBW := Lib.hid hbw; clear hbw
      go_wp2
      go_ret
      exact ⟨_, rfl, HB.out.trans (HBW.out.mono (by have := HB.out.size; omega))⟩

set_option maxHeartbeats 1000000 in
theorem windowsValid_any (s : ByteArray) (w : World) (hs : s.size ≤ maxLen) :
    Calls Tryd.prog 51 #[.string s] w fun e w' => ∃ b : Bool, e = .returned (.bool b) ∧ Below w.heap.size w w' := by
  go_enter Tryd.func51, Tryd.ntmps51
  go_wp2_with fail
  with_reducible refine (isNTFSDotGit_any _ _ hs).mono ?_
  rintro e w' ⟨rfl, rfl⟩
  generalize ((begins s dotGit && tailOk ((nb s).drop 4)) || (begins s gitOne && tailOk ((nb s).drop 5))) = B1
  cases B1
  · go_wp2_with fail
    with_reducible refine (isReserved_any _ _ hs).mono ?_
    rintro e w' ⟨b, rfl, hb⟩
    have HB := Lib.hid hb; clear hb
    go_wp2
    go_ret
    exact ⟨_, rfl, HB.out⟩
  · go_wp2_with fail
    with_reducible refine (isDotGitName_any _ _ hs).mono ?_
    rintro e w1 ⟨rfl, hb⟩
    have HB := Lib.hid hb; clear hb
    generalize (lowS (nb s) == dotGit || lowS (nb s) == gitOne) = B2
    cases B2
    · go_wp2
      go_ret
      exact ⟨_, rfl, HB.out⟩
    · go_wp2_with fail
      with_reducible refine (isReserved_any _ _ hs).mono ?_
      rintro e w2 ⟨b, rfl, hb⟩
      have HB2 := Lib.hid hb; clear hb
      go_wp2
      go_ret
      exact ⟨_, rfl, HB.out.trans (HB2.out.mono HB.out.size)⟩
end Go.Proofs.YteipeagdflcjjaaDoor
