/- zzIndexAny, zzContainsAny over nine signs. -/
import Derived.Test.YtnhegjjegamdfaaDoorRfT
namespace Go.Proofs.YtnhegjjegamdfaaDoor
open Go.RowKit
set_option linter.unusedSimpArgs false
set_option linter.unusedVariables false

def anyS : ByteArray := ⟨#[126, 94, 58, 63, 42, 91, 32, 9, 10]⟩
theorem anyS_nb : nb anyS = anyL := rfl
theorem anyS_low (q : Nat) : bx anyS q < 128 := by
  by_cases h : q < 9
  · rcases (by omega : q = 0 ∨ q = 1 ∨ q = 2 ∨ q = 3 ∨ q = 4 ∨ q = 5 ∨ q = 6 ∨ q = 7 ∨ q = 8) with rfl | rfl | rfl | rfl | rfl | rfl | rfl | rfl | rfl <;> decide
  · unfold bx; rw [anyS_nb, List.getD_eq_getElem?_getD, List.getElem?_eq_none (by simp [anyL]; omega)]; decide
theorem any_low {r : Nat} (h : r ∈ anyL) : r < 128 := by simp [anyL] at h; omega
theorem any_of {r q : Nat} (hq : q < 9) (h : bx anyS q = r) : r ∈ anyL := by
  rw [← h, ← anyS_nb]
  exact bx_mem (s := anyS) hq
theorem any_none {r : Nat} (h : ∀ j, j < 9 → bx anyS j ≠ r) : r ∉ anyL := by
  intro hm
  rw [← anyS_nb] at hm
  obtain ⟨j, hj, e⟩ := List.mem_iff_getElem.mp hm
  rw [bx_getElem] at e
  exact h j hj e
def IdxAnyPost (s : ByteArray) (w : World) (e : Ending) (w' : World) : Prop :=
  ∃ r : Int, e = .returned (.int .i64 r) ∧ (decide (0 ≤ r) = true ↔ ∃ c ∈ nb s, c ∈ anyL) ∧ Below w.heap.size w w'
/-- What one turn of the outer loop has seen. -/
theorem seen_next {s : ByteArray} {pos r v : Nat} (hlt : pos < s.size) (hr : (Utf8.decode s pos).1 = r) (hv : (Utf8.decode s pos).2 = v) (h : ∀ j, j < pos → bx s j ∉ anyL) (hn : r ∉ anyL) : ∀ j, j < pos + v → bx s j ∉ anyL := by
  intro j hj
  by_cases h1 : j < pos
  · exact h j h1
  · by_cases h128 : bx s pos < 128
    · rw [decode_low h128] at hr hv
      simp only at hr hv
      rw [show j = pos by omega, hr]; exact hn
    · have := (decode_high (s := s) (i := pos) (by omega)).2.2 j (by omega) (by omega)
      intro hm
      have := any_low hm
      omega
theorem seen_hit {s : ByteArray} {pos r : Nat} (hlt : pos < s.size) (hr : (Utf8.decode s pos).1 = r) (h : r ∈ anyL) : ∃ c ∈ nb s, c ∈ anyL := by
  by_cases h128 : bx s pos < 128
  · rw [decode_low h128] at hr
    simp only at hr
    exact ⟨_, bx_mem hlt, by rw [hr]; exact h⟩
  · have := (decode_high (s := s) (i := pos) (by omega)).1
    have := any_low h
    omega
theorem decode_pos' (s : ByteArray) (i : Nat) : 1 ≤ (Utf8.decode s i).2 := by
  by_cases h : bx s i < 128
  · rw [decode_low h]; exact Nat.le_refl 1
  · exact (decode_high (s := s) (i := i) (by omega)).2.1

set_option maxRecDepth 100000 in
set_option maxHeartbeats 2000000 in
theorem zzIndexAny_any (s : ByteArray) (w : World) (hs : s.size ≤ 1000) :
    Calls Tryd.prog 38 #[.string s, .string ⟨#[126, 94, 58, 63, 42, 91, 32, 9, 10]⟩] w (IdxAnyPost s w) := by
  go_enter Tryd.func38, Tryd.ntmps38
  go_wp2
  have hit : (w.iter s 0).heap[w.heap.size]? = some (.stringIter s 0) := World.iter_heap w s 0
  have hb0 : Below w.heap.size w (w.iter s 0) := (Below.refl _ _).alloc (Nat.le_refl _) _
  generalize w.iter s 0 = w1 at hit hb0
  have HIT := Lib.hid hit; have HB0 := Lib.hid hb0
  clear hit hb0
  go_loopw [5] (fun _ wr => ∃ pos : Nat, wr.heap[w.heap.size]? = some (.stringIter s pos) ∧ Below w.heap.size w wr ∧ ∀ j, j < pos → bx s j ∉ anyL) (fun _ wr => s.size - wr.iterPos w.heap.size)
  case atStart => exact ⟨0, HIT.out, HB0.out, fun j h => by omega⟩
  case round =>
    obtain ⟨pos, hit, hbw, hall⟩ := hrel
    have HA := Lib.hid hall; clear hall
    by_cases hlt : pos < s.size
    · have hnx := Lib.run_next_any_at (P := Tryd.prog) wr w.heap.size s pos 0 hit hlt
      have hwd := decode_pos' s pos
      have hp1 : wr.iterPos w.heap.size = pos := by simp [World.iterPos, hit]
      have HP1 := Lib.hid hp1; clear hp1
      generalize hr : (Utf8.decode s pos).1 = r at hnx
      generalize hv : (Utf8.decode s pos).2 = v at hnx hwd
      have HR := Lib.hid hr; have HV := Lib.hid hv
      clear hr hv
      have hi2 := Lib.iterAt_heap wr w.heap.size s pos (pos + v) hit
      have hb2 : Below w.heap.size w (wr.iterAt w.heap.size s (pos + v)) := Lib.below_iterAt hbw (Nat.le_refl _) _ _
      clear hit hbw
      go_upto_region 4 with (fail)
      generalize wr.iterAt w.heap.size s (pos + v) = w3 at hi2 hb2
      clear hnx
      have hp2 : w3.iterPos w.heap.size = pos + v := by simp [World.iterPos, hi2]
      have HI2 := Lib.hid hi2; have HP2 := Lib.hid hp2; have HB2 := Lib.hid hb2
      clear hi2 hp2 hb2
      have hit4 : (w3.iter ⟨#[126, 94, 58, 63, 42, 91, 32, 9, 10]⟩ 0).heap[w3.heap.size]? = some (.stringIter anyS 0) := World.iter_heap w3 anyS 0
      have hb4 : Below w3.heap.size w3 (w3.iter ⟨#[126, 94, 58, 63, 42, 91, 32, 9, 10]⟩ 0) := (Below.refl _ _).alloc (Nat.le_refl _) _
      go_wp2
      generalize w3.iter ⟨#[126, 94, 58, 63, 42, 91, 32, 9, 10]⟩ 0 = w4 at hit4 hb4
      have HIT4 := Lib.hid hit4; have HB4 := Lib.hid hb4
      clear hit4 hb4
      go_loopw [8] (fun _ wq => ∃ q : Nat, wq.heap[w3.heap.size]? = some (.stringIter anyS q) ∧ Below w3.heap.size w3 wq ∧ q ≤ 9 ∧ ∀ j, j < q → bx anyS j ≠ r) (fun _ wq => 9 - wq.iterPos w3.heap.size)
      case atStart => exact ⟨0, HIT4.out, HB4.out, by omega, fun j h => by omega⟩
      case round =>
        obtain ⟨q, hiq, hbq, hq9, hallq⟩ := hrel
        have HAQ := Lib.hid hallq; clear hallq
        by_cases hlq : q < 9
        · have hnx := Lib.run_next_any_at (P := Tryd.prog) wr w3.heap.size anyS q 0 hiq hlq
          rw [decode_low (anyS_low q)] at hnx
          have hp1 : wr.iterPos w3.heap.size = q := by simp [World.iterPos, hiq]
          have HPQ := Lib.hid hp1; clear hp1
          generalize hd : bx anyS q = dd at hnx
          have HD := Lib.hid hd; clear hd
          have hi5 := Lib.iterAt_heap wr w3.heap.size anyS q (q + 1) hiq
          have hb5 : Below w3.heap.size w3 (wr.iterAt w3.heap.size anyS (q + 1)) := Lib.below_iterAt hbq (Nat.le_refl _) _ _
          clear hiq hbq
          by_cases he : r = dd
          · have HY : Hid (∃ c ∈ nb s, c ∈ anyL) := Lib.hid (seen_hit hlt HR.out (any_of hlq (HD.out.trans he.symm)))
            have qe : ((r : Int) == (dd : Int)) = true := beq_iff_eq.mpr (by omega)
            have HB5 : Hid (Below w.heap.size w (wr.iterAt w3.heap.size anyS (q + 1))) := Lib.hid (HB2.out.trans (hb5.mono HB2.out.size))
            clear he hi5 hb5
            go_wp2
            go_ret
            exact ⟨_, rfl, ⟨fun _ => HY.out, fun _ => decide_eq_true (by omega)⟩, HB5.out⟩
          · have qe : ((r : Int) == (dd : Int)) = false := beq_eq_false_iff_ne.mpr (by omega)
            have hp5 : (wr.iterAt w3.heap.size anyS (q + 1)).iterPos w3.heap.size = q + 1 := by simp [World.iterPos, hi5]
            have HI5 := Lib.hid hi5; have HB5 := Lib.hid hb5; have HP5 := Lib.hid hp5
            clear hi5 hb5 hp5
            go_wp2
            go_roundw
            case rel =>
              refine ⟨q + 1, HI5.out, HB5.out, by omega, fun j hj => ?_⟩
              by_cases e : j = q
              · subst e; rw [HD.out]; exact fun h => he h.symm
              · exact HAQ.out j (by omega)
            case measure => rw [HPQ.out, HP5.out]; omega
        · have hnx := Lib.run_next_end_at (P := Tryd.prog) wr w3.heap.size anyS q 0 hiq (by show ¬ q < 9; exact hlq)
          have HN := Lib.hid (seen_next hlt HR.out HV.out HA.out (any_none (fun j hj => HAQ.out j (by omega))))
          have HI6 : Hid (wr.heap[w.heap.size]? = some (.stringIter s (pos + v))) := Lib.hid ((hbq.block w.heap.size (Array.getElem?_eq_some_iff.1 HI2.out).1).trans HI2.out)
          have HB6 : Hid (Below w.heap.size w wr) := Lib.hid (HB2.out.trans (hbq.mono HB2.out.size))
          have hp6 : wr.iterPos w.heap.size = pos + v := by simp [World.iterPos, HI6.out]
          have HP6 := Lib.hid hp6
          clear hiq hbq hp6
          go_wp2
          go_roundw
          case rel => exact ⟨pos + v, HI6.out, HB6.out, HN.out⟩
          case measure => rw [HP1.out, HP6.out]; omega
    · have hnx := Lib.run_next_end_at (P := Tryd.prog) wr w.heap.size s pos 0 hit hlt
      have HN : Hid (¬ ∃ c ∈ nb s, c ∈ anyL) := Lib.hid (by
        rintro ⟨c, hc, h⟩
        obtain ⟨j, hj, rfl⟩ := List.mem_iff_getElem.mp hc
        rw [bx_getElem] at h
        rw [nb_length] at hj
        exact HA.out j (by omega) h)
      have HB6 := Lib.hid hbw
      clear hit hbw
      go_wp2
      go_ret
      exact ⟨-1, rfl, ⟨fun h => absurd h (by decide), fun h => absurd h HN.out⟩, HB6.out⟩

set_option maxHeartbeats 400000 in
theorem zzContainsAny_any (s : ByteArray) (w : World) (hs : s.size ≤ 1000) :
    Calls Tryd.prog 31 #[.string s, .string ⟨#[126, 94, 58, 63, 42, 91, 32, 9, 10]⟩] w (BelowPost (∃ c ∈ nb s, c ∈ anyL) w) := by
  go_enter Tryd.func31, Tryd.ntmps31
  go_wp2_with fail
  with_reducible refine (zzIndexAny_any s _ hs).mono ?_
  rintro e w' ⟨r, rfl, hr, hb⟩
  have HR := Lib.hid hr; have HB := Lib.hid hb
  clear hr hb
  go_wp2
  go_ret
  exact ⟨_, rfl, HR.out, HB.out⟩
end Go.Proofs.YtnhegjjegamdfaaDoor
