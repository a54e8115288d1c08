/- validAttributeName, zzPair, checkMacro. -/
import Derived.Test.YteipeagdflcjjaaDoorAtA
import Derived.Test.YteipeagdflcjjaaDoorChunk
namespace Go.Proofs.YteipeagdflcjjaaDoor
open Go.RowKit
set_option linter.unusedSimpArgs false
set_option linter.unusedVariables false

/-- A sign that may stand in an attribute's name. -/
def okN (c : Nat) : Bool := decide (c = 45 ∨ c = 46 ∨ c = 95 ∨ (48 ≤ c ∧ c ≤ 57) ∨ (97 ≤ c ∧ c ≤ 122) ∨ (65 ≤ c ∧ c ≤ 90))
def vname (s : ByteArray) : Bool := decide (s.size ≠ 0 ∧ bx s 0 ≠ 45) && (nb s).all okN
theorem vname_no {s : ByteArray} {k : Nat} (hk : k < s.size) (h : okN (bx s k) = false) : vname s = false := by
  unfold vname
  rw [Bool.and_eq_false_iff]
  right
  rw [List.all_eq_false]
  exact ⟨bx s k, by rw [← bx_getElem s k (by rw [nb_length]; exact hk)]; exact List.getElem_mem _, by rw [h]; decide⟩
theorem vname_yes {s : ByteArray} (h0 : s.size ≠ 0) (h1 : bx s 0 ≠ 45) (h : ∀ j, j < s.size → okN (bx s j) = true) : vname s = true := by
  unfold vname
  rw [Bool.and_eq_true, decide_eq_true_iff, List.all_eq_true]
  refine ⟨⟨h0, h1⟩, fun c hc => ?_⟩
  obtain ⟨i, hi, rfl⟩ := List.getElem_of_mem hc
  rw [bx_getElem]
  exact h i (by rwa [nb_length] at hi)

def VnPost (s : ByteArray) (w : World) (e : Ending) (w' : World) : Prop := e = .returned (.bool (vname s)) ∧ Below w.heap.size w w'
set_option maxRecDepth 100000 in
set_option maxHeartbeats 4000000 in
theorem validName_any (s : ByteArray) (w : World) (hs : s.size ≤ 10000) (ha : Asc s) :
    Calls Tryd.prog 61 #[.string s] w (VnPost s w) := by
  have HA := Lib.hid ha; clear ha
  by_cases h0 : s.size = 0
  · have hq : ((s.size : Int) == 0) = true := beq_iff_eq.mpr (by omega)
    have HF : Hid (vname s = false) := Lib.hid (by unfold vname; rw [decide_eq_false (by omega)]; rfl)
    clear h0
    go_enter Tryd.func61, Tryd.ntmps61
    go_wp2
    go_ret
    exact ⟨ret_bool HF.out.symm, Below.refl _ _⟩
  · have hq : ((s.size : Int) == 0) = false := beq_eq_false_iff_ne.mpr (by omega)
    have hb0 := bx_get s 0 (by omega)
    have hl0 : (0 : Int) < s.size := by omega
    by_cases h45 : bx s 0 = 45
    · have HF : Hid (vname s = false) := Lib.hid (by unfold vname; rw [decide_eq_false (by omega)]; rfl)
      rw [h45] at hb0
      clear h45
      go_enter Tryd.func61, Tryd.ntmps61
      go_wp2
      go_ret
      exact ⟨ret_bool HF.out.symm, Below.refl _ _⟩
    · have hq1 : ((bx s 0 : Int) == 45) = false := beq_eq_false_iff_ne.mpr (by omega)
      have H45 := Lib.hid h45
      generalize hbx : bx s 0 = b0 at hb0 hq1
      clear h45 hbx
      go_enter Tryd.func61, Tryd.ntmps61
      go_wp2
      clear hb0 hq1 hl0
      generalize hB1 : w.heap.size = b1
      have HB1 := Lib.hid hB1; clear hB1
      have hit0 : (w.iter s 0).heap[b1]? = some (.stringIter s 0) := by rw [← HB1.out]; exact World.iter_heap _ _ _
      have hb0 : Below b1 w (w.iter s 0) := (Below.refl _ _).alloc (by rw [← HB1.out]; exact Nat.le_refl _) _
      generalize w.iter s 0 = w1 at hit0 hb0
      have HB0 := Lib.hid hb0; clear hb0
      have HI0 := Lib.hid hit0; clear hit0
      go_loopw [4] (fun _ wr => ∃ j, j ≤ s.size ∧ (∀ i, i < j → okN (bx s i) = true) ∧ Below b1 w wr ∧ wr.heap[b1]? = some (.stringIter s j)) (fun _ wr => s.size - wr.iterPos b1)
      case atStart => exact ⟨0, by omega, fun i h => by omega, HB0.out, HI0.out⟩
      case round =>
        clear HB0 HI0
        obtain ⟨j, hjs, hall, hbw, hit⟩ := hrel
        have HALL := Lib.hid hall; clear hall
        have hlb : b1 < wr.heap.size := (Array.getElem?_eq_some_iff.1 hit).1
        by_cases hlt : j < s.size
        · have hx := HA.out j hlt
          have hnx := Lib.run_next_ascii_at (P := Tryd.prog) wr b1 s j 0 hit hlt (by rw [bx_get]; exact hx)
          rw [bx_get] at hnx
          have hb2 : Below b1 w (wr.iterAt b1 s (j + 1)) := Lib.below_iterAt hbw (Nat.le_refl _) _ _
          have hi2 := Lib.iterAt_heap wr b1 s j (j + 1) hit
          have hsz2 : b1 < (wr.iterAt b1 s (j + 1)).heap.size := (Array.getElem?_eq_some_iff.1 hi2).1
          have hp1 : wr.iterPos b1 = j := by simp [World.iterPos, hit]
          have HP1 := Lib.hid hp1; clear hp1
          generalize hxx : bx s j = x at hnx hx
          have HX := Lib.hid hxx; clear hxx
          have HB2 := Lib.hid hb2; have HI2 := Lib.hid hi2
          generalize wr.iterAt b1 s (j + 1) = w3 at *
          have hp2 : w3.iterPos b1 = j + 1 := by simp [World.iterPos, hi2]
          have HP2 := Lib.hid hp2; clear hp2 hb2 hi2 hit hbw
          go_wp2
          all_goals first
            | (go_roundw
               case rel =>
                 refine ⟨j + 1, by omega, fun i hi => ?_, HB2.out, HI2.out⟩
                 by_cases e : i = j
                 · subst e
                   rw [HX.out]
                   unfold okN
                   rw [decide_eq_true_iff]
                   try simp only [Bool.not_eq_true', Bool.not_eq_false', decide_eq_true_eq, decide_eq_false_iff_not, beq_iff_eq, beq_eq_false_iff_ne, bne_iff_ne, ne_eq, bne_eq_false_iff_eq] at *
                   omega
                 · exact HALL.out i (by omega)
               case measure => rw [HP1.out, HP2.out]; omega)
            | (go_ret
               refine ⟨ret_bool (vname_no hlt ?_).symm, HB1.out ▸ HB2.out⟩
               rw [HX.out]
               unfold okN
               rw [decide_eq_false_iff_not]
               try simp only [Bool.not_eq_true', Bool.not_eq_false', decide_eq_true_eq, decide_eq_false_iff_not, beq_iff_eq, beq_eq_false_iff_ne, bne_iff_ne, ne_eq, bne_eq_false_iff_eq] at *
               omega)
        · obtain rfl : j = s.size := by omega
          have hnx := Lib.run_next_end_at (P := Tryd.prog) wr b1 s s.size 0 hit hlt
          have HF : Hid (vname s = true) := Lib.hid (vname_yes h0 H45.out HALL.out)
          go_wp2
          go_ret
          exact ⟨ret_bool HF.out.symm, HB1.out ▸ hbw⟩

/-! ## zzPair -/
def PairNo (s : ByteArray) (w : World) (e : Ending) (w' : World) : Prop := ∃ g : Nat, e = .returned (.slice (some ⟨g, 0, none⟩) 1 1) ∧ Below w.heap.size w w'
def PairYes (s : ByteArray) (k : Nat) (w : World) (e : Ending) (w' : World) : Prop :=
  ∃ g : Nat, e = .returned (.slice (some ⟨g, 0, none⟩) 2 2) ∧ w'.cell? ⟨g, 0, none⟩ = some (.string (s.extract 0 k)) ∧ w'.cell? ⟨g, 1, none⟩ = some (.string (s.extract (k + 1) s.size)) ∧ Below w.heap.size w w'
set_option maxRecDepth 100000 in
set_option maxHeartbeats 1000000 in
theorem pair_no (s : ByteArray) (w : World) (hs : s.size ≤ 10000) (h : ∀ i, i < s.size → bx s i ≠ 61) :
    Calls Tryd.prog 60 #[.string s] w (PairNo s w) := by
  have H := Lib.hid h; clear h
  go_enter Tryd.func60, Tryd.ntmps60
  go_wp2
  go_loop [3] (fun i => ∃ k : Nat, k ≤ s.size ∧ i = .int .i64 (k : Nat)) (fun i => s.size - (intOf i).toNat)
  case atStart => exact ⟨0, Nat.zero_le _, rfl⟩
  case round =>
    obtain ⟨k, hk, rfl⟩ := hrel
    by_cases hlt : k < s.size
    · have hb := bx_get s k hlt
      have hq : ((bx s k : Int) == 61) = false := beq_eq_false_iff_ne.mpr (by have := H.out k hlt; omega)
      generalize bx s k = x at hb hq
      go_wp2
      go_round
      case rel => exact ⟨k + 1, by omega, by go_num⟩
      case measure => simp [intOf]; omega
    · go_wp2
      go_ret
      exact ⟨_, rfl, (Below.refl _ _).alloc (Nat.le_refl _) _⟩
set_option maxRecDepth 100000 in
set_option maxHeartbeats 1000000 in
theorem pair_yes (s : ByteArray) (m : Nat) (w : World) (hs : s.size ≤ 10000) (hm : m < s.size) (h : ∀ i, i < m → bx s i ≠ 61) (hat : bx s m = 61) :
    Calls Tryd.prog 60 #[.string s] w (PairYes s m w) := by
  have H := Lib.hid h; clear h
  have HAT := Lib.hid hat; clear hat
  go_enter Tryd.func60, Tryd.ntmps60
  go_wp2
  go_loop [3] (fun i => ∃ k : Nat, k ≤ m ∧ i = .int .i64 (k : Nat)) (fun i => m - (intOf i).toNat)
  case atStart => exact ⟨0, Nat.zero_le _, rfl⟩
  case round =>
    obtain ⟨k, hk, rfl⟩ := hrel
    by_cases hlt : k < m
    · have hb := bx_get s k (by omega)
      have hq : ((bx s k : Int) == 61) = false := beq_eq_false_iff_ne.mpr (by have := H.out k hlt; omega)
      generalize bx s k = x at hb hq
      go_wp2
      go_round
      case rel => exact ⟨k + 1, by omega, by go_num⟩
      case measure => simp [intOf]; omega
    · obtain rfl : k = m := by omega
      have hb := bx_get s k hm
      rw [HAT.out] at hb
      have hle : (k : Int) ≤ s.size := by omega
      have hle1 : (k : Int) + 1 ≤ s.size := by omega
      go_wp2
      go_region
      all_goals
        go_wp2
        go_ret
        exact ⟨_, rfl, World.cell?_alloc_mark w #[Value.string (s.extract 0 k), Value.string (s.extract (k + 1) s.size)] 9 (0, 0) 0, World.cell?_alloc_mark w #[Value.string (s.extract 0 k), Value.string (s.extract (k + 1) s.size)] 9 (0, 0) 1, ((Below.refl _ _).alloc (Nat.le_refl _) _).drew⟩
end Go.Proofs.YteipeagdflcjjaaDoor
