/- deltaIndex.findMatch. -/
import Derived.Test.YtgibmkgibkhemaaDoorDcX
namespace Go.Proofs.YtgibmkgibkhemaaDoor
open Go.RowKit
set_option linter.unusedSimpArgs false
set_option linter.unusedVariables false

/-- What a match may be. -/
def Found (S T : List Nat) (i : Nat) (o l : Int) : Prop :=
  l = 0 ∨ l = -1 ∨ (∃ k : Nat, l = k ∧ 1 ≤ k ∧ k < 16 ∧ i + k ≤ T.length) ∨ (∃ p k : Nat, o = p ∧ l = k ∧ 16 ≤ k ∧ p + k ≤ S.length ∧ i + k ≤ T.length ∧ ∀ j, j < k → S.getD (p + j) 0 = T.getD (i + j) 0)
def FmPost (S T : List Nat) (i : Nat) (w : World) (e : Ending) (w' : World) : Prop :=
  ∃ o l : Int, e = .returned (.tuple #[.int .i64 o, .int .i64 l]) ∧ Found S T i o l ∧ Below w.heap.size w w'
set_option maxRecDepth 100000 in
set_option maxHeartbeats 8000000 in
theorem findMatch_any (ix sb tb c1 c2 : Nat) (S T : List Nat) (i : Nat) (w : World) (hS : BR w sb S) (hT : BR w tb T) (hSl : S.length ≤ 1000) (hTl : T.length ≤ 1000) (hT2 : ∀ j, T.getD j 0 < 256) (hi : i < T.length)
    (hix : S.length < 16 ∨ ∃ (xb e2 tn M : Nat) (T2 E2 : Nat → Nat), IxSt w ix xb e2 tn M M T2 E2 S.length ∧ 1 ≤ tn ∧ tn ≤ 64 ∧ M ≤ 5000) :
    Calls Tryd.prog 39 #[.pointer (some ⟨ix, 0, none⟩), .slice (some ⟨sb, 0, none⟩) S.length c1, .slice (some ⟨tb, 0, none⟩) T.length c2, .int .i64 i] w (FmPost S T i w) := by
  have HS := Lib.hid hS; have HT := Lib.hid hT; have HT2 := Lib.hid hT2; have HIX := Lib.hid hix
  obtain ⟨N, hN⟩ : ∃ N, N = S.length := ⟨_, rfl⟩
  obtain ⟨M, hM⟩ : ∃ M, M = T.length := ⟨_, rfl⟩
  have HN := Lib.hid hN; have HM := Lib.hid hM
  have HML := Lib.hid (fun w (o : Nat) (h1 : BR w sb S) (h2 : BR w tb T) (h3 : o ≤ S.length) => matchLength_any sb tb c1 c2 S T o i w h1 h2 h3 (by omega) hSl hTl)
  rw [← hN, ← hM] at HML
  rw [← hN] at hSl ⊢
  rw [← hM] at hTl hi ⊢
  clear hN hM hS hT hT2 hix
  by_cases h1 : M < i + 16
  · have h1i : (M : Int) < (i : Int) + 16 := by omega
    go_enter Tryd.func39, Tryd.ntmps39
    go_wp2
    go_ret2
    exact ⟨0, (M : Int) - i, rfl, .inr (.inr (.inl ⟨M - i, by omega, by omega, by omega, by rw [← HM.out]; omega⟩)), Below.refl _ _⟩
  have h1i : ¬ (M : Int) < (i : Int) + 16 := by omega
  by_cases h2 : N < 16
  · have h2i : (N : Int) < 16 := by omega
    go_enter Tryd.func39, Tryd.ntmps39
    go_wp2
    go_ret2
    exact ⟨0, -1, rfl, .inr (.inl rfl), Below.refl _ _⟩
  have h2i : ¬ (N : Int) < 16 := by omega
  obtain ⟨xb, e2, tn, K, T2, E2, hst, t1, t2, hK⟩ := HIX.out.resolve_left (by rw [← HN.out]; exact h2)
  have HST := Lib.hid hst
  have HH := Lib.hid (hashBlock_any tb M c2 i (fun q => T.getD (i + q) 0) w (fun q => HT2.out _) (by omega) (by omega) HT.out.1 (fun q hq => HT.out.2 (i + q) (by rw [← HM.out]; omega)))
  clear hst h1 h2
  go_enter Tryd.func39, Tryd.ntmps39
  go_wp2_with fail
  with_reducible refine HH.out.mono ?_
  rintro e w1 ⟨hsh, rfl, hh, hb1⟩
  have HB1 := Lib.hid hb1
  have ST1 : Hid (IxSt w1 ix xb e2 tn K K T2 E2 S.length) := Lib.hid (by
    have h := HST.out
    exact ⟨(hb1.block ix (Lib.lt_of_heap h.row)).trans h.row, h.t.below hb1 h.t.lt, h.e.below hb1 h.e.lt, h.it, h.ie, h.te, h.tv, h.ev⟩)
  clear hb1 HH HST
  obtain ⟨u, hu, hut⟩ := mask_ix hsh tn hh t1 t2
  obtain ⟨f0, f1, f2⟩ := ST1.out.cells
  have ct := ST1.out.t.cell hut
  have hTu := ST1.out.tv u hut
  have huti : (u : Int) < tn := by omega
  generalize T2 u = g at ct hTu
  have ce := ST1.out.e.cell hTu
  have hEv := ST1.out.ev g hTu
  have hgi : (g : Int) < K := by omega
  generalize E2 g = p at ce hEv
  by_cases hg : g = 0
  · subst hg
    go_wp2
    go_ret2
    exact ⟨0, 0, rfl, .inl rfl, HB1.out⟩
  · have hz : ((g : Int) == 0) = false := beq_eq_false_iff_ne.mpr (by omega)
    have HM1 := Lib.hid (HML.out w1 p ⟨Nat.lt_of_lt_of_le HS.out.1 HB1.out.size, fun q hq => (HB1.out.cell (p := ⟨sb, q, none⟩) HS.out.1).trans (HS.out.2 q hq)⟩ ⟨Nat.lt_of_lt_of_le HT.out.1 HB1.out.size, fun q hq => (HB1.out.cell (p := ⟨tb, q, none⟩) HT.out.1).trans (HT.out.2 q hq)⟩ (by rw [HN.out]; exact hEv))
    go_wp2_with fail
    with_reducible refine HM1.out.mono ?_
    rintro e w2 ⟨l, rfl, hl1, hl2, hl3, hb2⟩
    have HB2 : Hid (Below w.heap.size w w2) := Lib.hid (HB1.out.trans (hb2.mono HB1.out.size))
    have HL3 := Lib.hid hl3
    clear hl3 hb2
    go_wp2
    go_ret2
    refine ⟨p, l, rfl, ?_, HB2.out⟩
    by_cases h0 : l = 0
    · exact .inl (by omega)
    · by_cases h16 : l < 16
      · exact .inr (.inr (.inl ⟨l, rfl, by omega, h16, hl2⟩))
      · exact .inr (.inr (.inr ⟨p, l, rfl, rfl, by omega, hl1, hl2, HL3.out⟩))
end Go.Proofs.YtgibmkgibkhemaaDoor
