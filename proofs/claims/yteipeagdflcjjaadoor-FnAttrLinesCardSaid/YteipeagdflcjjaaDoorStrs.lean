/- Lists of strings as arguments: zzFits3, lineSame; IsFileName; HasPrefix. -/
import Derived.Test.YteipeagdflcjjaaDoorHead
import Derived.Test.YteipeagdflcjjaaDoorWord
import Derived.Deep.QuietTactic
import Derived.BigQuiet
namespace Go.Proofs.YteipeagdflcjjaaDoor
open Go.RowKit
set_option linter.unusedSimpArgs false
set_option linter.unusedVariables false

/-- A row of strings. -/
def Strs (w : World) (A : Option Addr) (n : Nat) (f : Nat → ByteArray) : Prop := Rd w A n (fun i => .string (f i))

theorem Strs.at {w : World} {A : Option Addr} {n : Nat} {f : Nat → ByteArray} (h : Strs w A n f) (k : Nat) (hk : k < n) : ∃ b off, A = some ⟨b, off, none⟩ ∧ b < w.heap.size ∧ w.cell? ⟨b, off + k, none⟩ = some (.string (f k)) := h k hk
theorem Strs.below {w w' : World} {A : Option Addr} {n : Nat} {f : Nat → ByteArray} (h : Strs w A n f) (hb : Below w.heap.size w w') : Strs w' A n f := Rd.below h hb

def Fits3Post (n : Nat) (f : Nat → ByteArray) (w : World) (e : Ending) (w' : World) : Prop :=
  ∃ r, e = .returned (.bool r) ∧ (r = true → n ≤ 2147483647 ∧ ∀ i, i < n → (f i).size ≤ 2147483647) ∧ w = w'

set_option maxHeartbeats 400000 in
theorem fits3_any (A : Option Addr) (n c : Nat) (f : Nat → ByteArray) (w : World) (hm : n ≤ maxLen) (h : Strs w A n f) :
    Calls Tryd.prog 11 #[.slice A n c] w (Fits3Post n f w) := by
  have H := Lib.hid h; clear h
  unfold maxLen at hm
  go_enter Tryd.func11, Tryd.ntmps11
  by_cases h1 : (n : Int) ≤ 2147483647
  · go_wp2
    go_loop [10] (fun i => ∃ k : Nat, k ≤ n ∧ i = .int .i64 k ∧ ∀ j, j < k → (f j).size ≤ 2147483647) (fun i => n - (intOf i).toNat)
    case atStart => exact ⟨0, Nat.zero_le _, rfl, fun j h => by omega⟩
    case round =>
      obtain ⟨k, hk, rfl, hall⟩ := hrel
      have HA := Lib.hid hall; clear hall
      by_cases hlt : k < n
      · obtain ⟨b, off, rfl, _, hcell⟩ := H.out.at k hlt
        by_cases hs : ((f k).size : Int) ≤ 2147483647
        · go_wp2
          go_round
          case rel =>
            refine ⟨k + 1, by omega, by go_num, fun j hj => ?_⟩
            by_cases e : j = k
            · subst e; omega
            · exact HA.out j (by omega)
          case measure => simp [intOf]; omega
        · have hs' : (2147483647 : Int) < (f k).size := by omega
          go_wp2
          go_ret
          exact ⟨false, rfl, fun h => (by cases h), rfl⟩
      · go_wp2
        go_ret
        exact ⟨true, rfl, fun _ => ⟨by omega, fun i hi => HA.out i (by omega)⟩, rfl⟩
  · have h1' : (2147483647 : Int) < n := by omega
    go_wp2
    go_ret
    exact ⟨false, rfl, fun h => (by cases h), rfl⟩

def SomeBool (w : World) (e : Ending) (w' : World) : Prop := ∃ r, e = .returned (.bool r) ∧ w = w'


/-- The text p stands ahead in s. -/
def pre (s p : ByteArray) : Bool := decide (p.size ≤ s.size) && (nb (s.extract 0 p.size) == nb p)

def SamePost (n m : Nat) (f g : Nat → ByteArray) (w : World) (e : Ending) (w' : World) : Prop :=
  ∃ r, e = .returned (.bool r) ∧ ((n = m ∧ ∀ i, i < n → f i = g i) → r = true) ∧ Below w.heap.size w w'

set_option maxHeartbeats 400000 in
theorem lineSame_any (A B : Option Addr) (n m c d : Nat) (f g : Nat → ByteArray) (w : World) (hn : n ≤ maxLen) (hm : m ≤ maxLen) (hf : Strs w A n f) (hg : Strs w B m g) :
    Calls Tryd.prog 18 #[.slice A n c, .slice B m d] w (SamePost n m f g w) := by
  have HF := Lib.hid hf
  have HG := Lib.hid hg
  clear hf hg
  unfold maxLen at hn hm
  go_enter Tryd.func18, Tryd.ntmps18
  by_cases hnm : n = m
  · subst hnm
    have q : ((n : Int) != n) = false := by simp
    go_wp2
    go_loopw [13] (fun i wr => ∃ k : Nat, k ≤ n ∧ i = .int .i64 k ∧ Below w.heap.size w wr) (fun i _ => n - (intOf i).toNat)
    case atStart => exact ⟨0, Nat.zero_le _, rfl, Below.refl _ _⟩
    case round =>
      obtain ⟨k, hk, rfl, hbel⟩ := hrel
      have HB := Lib.hid hbel
      by_cases hlt : k < n
      · obtain ⟨b1, o1, rfl, _, hc1⟩ := (HF.out.below hbel).at k hlt
        obtain ⟨b2, o2, rfl, _, hc2⟩ := (HG.out.below hbel).at k hlt
        clear hbel
        by_cases he : f k = g k
        · have q2 : ((f k).toList == (g k).toList) = true := by rw [he]; simp
          clear he
          generalize f k = x at hc1 q2
          generalize g k = y at hc2 q2
          go_wp2
          go_quiet (fail)
          go_wp2
          go_roundw
          case rel => exact ⟨k + 1, by omega, by go_num, below_drewN HB.out _⟩
          case measure => simp [intOf]; omega
        · have q2 : ((f k).toList == (g k).toList) = false := by
            rw [beq_eq_false_iff_ne]
            intro h
            apply he
            have h2 := beq_str2 (f k) (g k)
            rw [h] at h2
            exact nb_inj (by simpa using h2.symm)
          have HE := Lib.hid he; clear he
          generalize hx : f k = x at hc1 q2
          generalize hy : g k = y at hc2 q2
          have HX := Lib.hid hx; clear hx
          have HY := Lib.hid hy; clear hy
          go_wp2
          go_quiet (fail)
          go_wp2
          go_ret
          exact ⟨false, rfl, fun h => absurd (h.2 k hlt) HE.out, below_drewN HB.out _⟩
      · go_wp2
        go_ret
        exact ⟨true, rfl, fun _ => rfl, HB.out⟩
  · have q : ((n : Int) != m) = true := by simp; omega
    go_wp2
    go_ret
    exact ⟨false, rfl, fun h => absurd h.1 hnm, Below.refl _ _⟩

set_option maxHeartbeats 400000 in
theorem hasPrefixLite_any (s p : ByteArray) (w : World) (hs : s.size ≤ maxLen) (hp : p.size ≤ maxLen) :
    Calls Tryd.prog 79 #[.string s, .string p] w fun e w' => e = .returned (.bool (pre s p)) ∧ w = w' := by
  unfold maxLen at hs hp
  by_cases hle : p.size ≤ s.size
  · have hle' : (p.size : Int) ≤ s.size := by omega
    have hq := beq_str2 (s.extract 0 p.size) p
    have HQ : Hid (pre s p = (nb (s.extract 0 p.size) == nb p)) := Lib.hid (by unfold pre; rw [decide_eq_true hle]; rfl)
    generalize (nb (s.extract 0 p.size) == nb p) = B at hq HQ
    go_enter Tryd.func79, Tryd.ntmps79
    go_wp2
    go_ret
    exact ⟨ret_bool HQ.out.symm, rfl⟩
  · have hle' : (s.size : Int) < p.size := by omega
    have HQ : Hid (pre s p = false) := Lib.hid (by unfold pre; rw [decide_eq_false hle]; rfl)
    go_enter Tryd.func79, Tryd.ntmps79
    go_wp2
    go_ret
    exact ⟨ret_bool HQ.out.symm, rfl⟩

set_option maxHeartbeats 400000 in
theorem hasPrefix_any (s p : ByteArray) (w : World) (hs : s.size ≤ maxLen) (hp : p.size ≤ maxLen) :
    Calls Tryd.prog 56 #[.string s, .string p] w fun e w' => e = .returned (.bool (pre s p)) ∧ w = w' := by
  go_enter Tryd.func56, Tryd.ntmps56
  go_wp2_with fail
  with_reducible refine (hasPrefixLite_any _ _ _ hs hp).mono ?_
  rintro e w' ⟨rfl, rfl⟩
  generalize hB : pre s p = B
  have HB := Lib.hid hB; clear hB
  go_wp2
  go_ret
  exact ⟨ret_bool HB.out.symm, rfl⟩
end Go.Proofs.YteipeagdflcjjaaDoor
