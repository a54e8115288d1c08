/- zzFold: two texts are the same but for capital letters. -/
import Derived.Test.YteipeagdflcjjaaDoorLow
import Derived.Deep.QuietTactic
import Derived.BigQuiet
import Derived.Deep.DeepCutAuto
namespace Go.Proofs.YteipeagdflcjjaaDoor
open Go.RowKit
set_option linter.unusedSimpArgs false
set_option linter.unusedVariables false

theorem lowS_eq_iff {a b : ByteArray} (h : a.size = b.size) : (lowS (nb a) == lowS (nb b)) = true ↔ ∀ j, j < a.size → lowN (bx a j) = lowN (bx b j) := by
  rw [beq_iff_eq]
  constructor
  · intro e j hj
    have e2 := congrArg (fun l => l.getD j 0) e
    simp only [lowS, List.getD_eq_getElem?_getD, List.getElem?_map] at e2
    rw [List.getElem?_eq_getElem (by rw [nb_length]; exact hj), List.getElem?_eq_getElem (by rw [nb_length]; omega), bx_getElem, bx_getElem] at e2
    simpa using e2
  · intro e
    refine List.ext_getElem (by simp [lowS, nb_length, h]) fun j h1 h2 => ?_
    have hj : j < a.size := by simpa [lowS, nb_length] using h1
    simp only [lowS, List.getElem_map, bx_getElem]
    exact e j hj

set_option maxHeartbeats 400000 in
theorem zzFold_any (a b : ByteArray) (w : World) (ha : a.size ≤ maxLen) (hb : b.size ≤ maxLen) :
    Calls Tryd.prog 86 #[.string a, .string b] w fun e w' => e = .returned (.bool (lowS (nb a) == lowS (nb b))) ∧ ∃ n, w' = w.drewN n := by
  unfold maxLen at ha hb
  by_cases hsz : a.size = b.size
  · have hne : ((a.size : Int) != (b.size : Int)) = false := by simp [hsz]
    have HSZ := Lib.hid hsz; clear hsz
    go_enter Tryd.func86, Tryd.ntmps86
    go_wp2
    go_loopw [5] (fun i wr => ∃ k : Nat, k ≤ a.size ∧ i = .int .i64 k ∧ (∀ j, j < k → lowN (bx a j) = lowN (bx b j)) ∧ ∃ n, wr = w.drewN n) (fun i _ => a.size - (intOf i).toNat)
    case atStart => exact ⟨0, Nat.zero_le _, rfl, fun j hj => by omega, 0, rfl⟩
    case round =>
      obtain ⟨k, hk, rfl, hall, n, hwr⟩ := hrel
      have HALL := Lib.hid hall; clear hall
      have HWR := Lib.hid hwr; clear hwr
      by_cases hlt : k < a.size
      · have hlt2 : k < b.size := by have := HSZ.out; omega
        have ba := bx_get a k hlt
        have bb := bx_get b k hlt2
        have la := bx_lt a k
        have lb := bx_lt b k
        generalize hx : bx a k = x at ba la
        generalize hy : bx b k = y at bb lb
        have HX := Lib.hid hx; clear hx
        have HY := Lib.hid hy; clear hy
        by_cases hlow : lowN x = lowN y
        · have q : (((lowN x : Nat) : Int) != ((lowN y : Nat) : Int)) = false := by simp [hlow]
          have HLOW := Lib.hid hlow; clear hlow
          go_wp2
          go_quiet ((go_at_call 70; exact Calls.quiet_of_same (low_same _ (by assumption) _)))
          go_wp2
          go_roundw
          case rel =>
            refine ⟨k + 1, by omega, by go_num, fun j hj => ?_, ?_⟩
            · by_cases e : j = k
              · subst e; rw [HX.out, HY.out]; exact HLOW.out
              · exact HALL.out j (by omega)
            · rw [HWR.out, World.drewN_drewN]; exact ⟨_, rfl⟩
          case measure => simp [intOf]; omega
        · have q : (((lowN x : Nat) : Int) != ((lowN y : Nat) : Int)) = true := by simp; omega
          have HLOW := Lib.hid hlow; clear hlow
          go_wp2
          go_quiet ((go_at_call 70; exact Calls.quiet_of_same (low_same _ (by assumption) _)))
          go_wp2
          go_ret
          refine ⟨ret_bool ?_, by rw [HWR.out, World.drewN_drewN]; exact ⟨_, rfl⟩⟩
          symm
          rw [Bool.eq_false_iff]
          intro h
          exact HLOW.out (by have := (lowS_eq_iff HSZ.out).mp h k hlt; rwa [HX.out, HY.out] at this)
      · go_wp2
        go_ret
        exact ⟨ret_bool ((lowS_eq_iff HSZ.out).mpr fun j hj => HALL.out j (by omega)).symm, _, HWR.out⟩
  · have hne : ((a.size : Int) != (b.size : Int)) = true := by simp; omega
    have HSZ := Lib.hid hsz; clear hsz
    go_enter Tryd.func86, Tryd.ntmps86
    go_wp2
    go_ret
    refine ⟨ret_bool ?_, 0, rfl⟩
    symm
    rw [beq_eq_false_iff_ne]
    intro h
    have := congrArg List.length h
    simp [lowS, nb_length] at this
    exact HSZ.out this

theorem zzFold_b (a b : ByteArray) (w : World) (ha : a.size ≤ maxLen) (hb : b.size ≤ maxLen) (B : Bool) (h : (lowS (nb a) == lowS (nb b)) = B) :
    Calls Tryd.prog 86 #[.string a, .string b] w fun e w' => e = .returned (.bool B) ∧ ∃ n, w' = w.drewN n := by
  subst h; exact zzFold_any a b w ha hb
end Go.Proofs.YteipeagdflcjjaaDoor
