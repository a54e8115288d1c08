/- matchLength. -/
import Derived.Test.YtgibmkgibkhemaaDoorDcA
import Derived.Deep.QuietTactic
import Derived.BigQuiet
import Derived.BigGuardPart
namespace Go.Proofs.YtgibmkgibkhemaaDoor
open Go.RowKit
set_option linter.unusedSimpArgs false
set_option linter.unusedVariables false

/-- A row of bytes that reads as S. -/
def BR (w : World) (b : Nat) (S : List Nat) : Prop := b < w.heap.size ∧ ∀ i, i < S.length → w.cell? ⟨b, i, none⟩ = some (.int .u8 (S.getD i 0 : Nat))
def MlPost (S T : List Nat) (o i : Nat) (w : World) (e : Ending) (w' : World) : Prop :=
  ∃ l : Nat, e = .returned (.int .i64 l) ∧ o + l ≤ S.length ∧ i + l ≤ T.length ∧ (∀ j, j < l → S.getD (o + j) 0 = T.getD (i + j) 0) ∧ Below w.heap.size w w'
set_option maxRecDepth 100000 in
set_option maxHeartbeats 4000000 in
theorem matchLength_any (sb tb c1 c2 : Nat) (S T : List Nat) (o i : Nat) (w : World) (hS : BR w sb S) (hT : BR w tb T) (ho : o ≤ S.length) (hi : i ≤ T.length) (hSl : S.length ≤ 1000) (hTl : T.length ≤ 1000) :
    Calls Tryd.prog 54 #[.slice (some ⟨sb, 0, none⟩) S.length c1, .slice (some ⟨tb, 0, none⟩) T.length c2, .int .i64 i, .int .i64 o] w (MlPost S T o i w) := by
  have HS := Lib.hid hS; have HT := Lib.hid hT
  obtain ⟨N, hN⟩ : ∃ N, N = S.length := ⟨_, rfl⟩
  obtain ⟨M, hM⟩ : ∃ M, M = T.length := ⟨_, rfl⟩
  have HN := Lib.hid hN; have HM := Lib.hid hM
  rw [← hN] at ho hSl ⊢
  rw [← hM] at hi hTl ⊢
  clear hN hM hS hT
  go_enter Tryd.func54, Tryd.ntmps54
  go_wp2
  go_loopw [2, 3, 8] (fun iv ov lv wr => ∃ l : Nat, iv = .int .i64 ((i + l : Nat) : Int) ∧ ov = .int .i64 ((o + l : Nat) : Int) ∧ lv = .int .i64 (l : Nat) ∧ o + l ≤ N ∧ i + l ≤ M ∧ (∀ j, j < l → S.getD (o + j) 0 = T.getD (i + j) 0) ∧ ∃ k, wr = w.drewN k) (fun iv _ _ _ => M - (intOf iv).toNat)
  case atStart => exact ⟨0, rfl, rfl, rfl, ho, hi, fun j hj => by omega, 0, rfl⟩
  case round =>
    obtain ⟨l, rfl, rfl, rfl, hol, hil, heq, hwr⟩ := hrel
    have HEQ := Lib.hid heq
    have HWR : Hid (Below w.heap.size w wr ∧ ∀ a, wr.cell? a = w.cell? a) := Lib.hid (by obtain ⟨k, rfl⟩ := hwr; exact ⟨below_drewN (Below.refl _ _) _, fun _ => rfl⟩)
    have HDR := Lib.hid hwr
    clear heq hwr
    obtain ⟨p, hp⟩ : ∃ p, p = o + l := ⟨_, rfl⟩
    obtain ⟨q, hq⟩ : ∃ q, q = i + l := ⟨_, rfl⟩
    rw [← hp] at hol ⊢
    rw [← hq] at hil ⊢
    have HP := Lib.hid hp; have HQ := Lib.hid hq
    clear hp hq
    have hl : l ≤ 1000 := by have := HP.out; omega
    by_cases h1 : p < N
    · by_cases h2 : q < M
      · have h1i : (p : Int) < N := by omega
        have h2i : (q : Int) < M := by omega
        have cs : wr.cell? ⟨sb, p, none⟩ = some (.int .u8 (S.getD p 0 : Nat)) := (HWR.out.2 _).trans <| HS.out.2 p (by rw [← HN.out]; exact h1)
        have ct : wr.cell? ⟨tb, q, none⟩ = some (.int .u8 (T.getD q 0 : Nat)) := (HWR.out.2 _).trans <| HT.out.2 q (by rw [← HM.out]; exact h2)
        generalize hx : S.getD p 0 = x at cs
        generalize hy : T.getD q 0 = y at ct
        have HX := Lib.hid hx; have HY := Lib.hid hy
        clear hx hy
        by_cases hxy : x = y
        · have HXY := Lib.hid hxy
          subst hxy
          have hq3 : ((x : Int) == (x : Int)) = true := by simp
          go_wp2
          go_quiet (fail)
          go_wp2
          go_roundw
          case rel => exact ⟨l + 1, by congr 1; have := HQ.out; omega, by congr 1; have := HP.out; omega, by go_num, by have := HP.out; omega, by have := HQ.out; omega, fun j hj => by
            by_cases h : j < l
            · exact HEQ.out j h
            · obtain rfl : j = l := by omega
              rw [← HP.out, ← HQ.out, HX.out, HY.out], by obtain ⟨k, rfl⟩ := HDR.out; exact ⟨_, World.drewN_drewN _ _ _⟩⟩
          case measure => simp [intOf] <;> omega
        · have hq3 : ((x : Int) == (y : Int)) = false := beq_eq_false_iff_ne.mpr (by omega)
          go_wp2
          go_quiet (fail)
          go_wp2
          go_ret
          exact ⟨l, rfl, by rw [← HN.out, ← HP.out]; omega, by rw [← HM.out, ← HQ.out]; omega, HEQ.out, below_drewN HWR.out.1 _⟩
      · have h1i : (p : Int) < N := by omega
        have h2i : ¬ (q : Int) < M := by omega
        go_wp2
        go_quiet (fail)
        go_wp2
        go_ret
        exact ⟨l, rfl, by rw [← HN.out, ← HP.out]; omega, by rw [← HM.out, ← HQ.out]; omega, HEQ.out, below_drewN HWR.out.1 _⟩
    · have h1i : ¬ (p : Int) < N := by omega
      go_wp2
      go_quiet (fail)
      go_wp2
      go_ret
      exact ⟨l, rfl, by rw [← HN.out, ← HP.out]; omega, by rw [← HM.out, ← HQ.out]; omega, HEQ.out, below_drewN HWR.out.1 _⟩
end Go.Proofs.YtgibmkgibkhemaaDoor
