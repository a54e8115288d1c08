/- What an argument that reads as data is: its value, and the cells that it leads to. -/
import Derived.Test.YtgibmkgibkhemaaDoorHead
import Derived.ProofKit
import Derived.OpenShut
import Derived.ShutString
import Derived.Deep.Slices
import Derived.Lib.SmallJoins
import Derived.ChangeOld
namespace Go.Proofs.YtgibmkgibkhemaaDoor
open Go.RowKit Go.Deep Go.Joins Go.ChangeShapes Go.WideShapes Go.ChangeAt
set_option linter.unusedSimpArgs false
set_option linter.unusedVariables false

theorem cell_at {w : World} {a : Addr} {v : Value} (h : w.cell? a = some v) : a.block < w.heap.size ∧ a.spot = none := by
  unfold World.cell? at h
  cases hh : w.heap[a.block]? with
  | none => rw [hh] at h; cases h
  | some o =>
    rw [hh] at h
    refine ⟨(Array.getElem?_eq_some_iff.1 hh).1, ?_⟩
    cases o <;> simp at h
    exact h.1

section
variable {H : Type} {enc : TypeId × Value → H} {P : Program} {w : World} {base : Nat} {spare : Nat → Bool} {held : Bool}

/-- A slice of elements of one cell, as it is read. -/
theorem read_slice1 {t e : TypeId} {fuel : Nat} {v : Value} {x : DataW H × List MemPlace} (ht : P.underlying t = some (.slice e)) (hc : P.cellsOf e = 1) (h : DataW.trod enc P w base spare held fuel t [v] = some x) :
    ∃ (A : Option Addr) (n c : Nat) (V : Nat → Value), v = .slice A n c ∧ n ≤ c ∧ n ≤ maxLen ∧ Rd w A n V ∧ ∀ i, i < n → ∃ m y, DataW.trod enc P w base spare held m e [V i] = some y := by
  rcases open_slice1 ht hc h with ⟨hcs, _⟩ | ⟨a, len, cap, m, k, V, D, Pl, hcs, _, hl, hm, hmm, _, hx⟩
  · exact ⟨none, 0, 0, fun _ => undef, List.head_eq_of_cons_eq hcs, Nat.le_refl _, Nat.zero_le _, fun i hi => absurd hi (Nat.not_lt_zero _), fun i hi => absurd hi (Nat.not_lt_zero _)⟩
  · have hlm : len ≤ m := by rw [hmm]; split <;> omega
    refine ⟨some a, len, cap, V, List.head_eq_of_cons_eq hcs, hl, Nat.le_trans hl hm, fun i hi => ?_, fun i hi => ⟨k, _, (hx i (by omega)).2⟩⟩
    obtain ⟨h1, _⟩ := cell_at (hx i (by omega)).1
    obtain ⟨_, h2⟩ := cell_at (hx 0 (by omega)).1
    obtain ⟨b, off, sp⟩ := a
    have hsp : sp = none := by simpa [Addr.add] using h2
    subst hsp
    have e1 : (⟨b, off, none⟩ : Addr).add i = ⟨b, off + i, none⟩ := by simp [Addr.add]
    have hx1 := (hx i (by omega)).1
    rw [e1] at hx1 h1
    exact ⟨b, off, rfl, h1, hx1⟩

theorem Rd.congr {A : Option Addr} {n : Nat} {f g : Nat → Value} (h : Rd w A n f) (e : ∀ i, i < n → f i = g i) : Rd w A n g := by
  intro i hi
  rw [← e i hi]; exact h i hi

theorem read_bools {t e : TypeId} {fuel : Nat} {v : Value} {x : DataW H × List MemPlace} (ht : P.underlying t = some (.slice e)) (he : P.underlying e = some .bool) (hc : P.cellsOf e = 1) (h : DataW.trod enc P w base spare held fuel t [v] = some x) :
    ∃ (A : Option Addr) (n c : Nat) (f : Nat → Bool), v = .slice A n c ∧ n ≤ maxLen ∧ Rd w A n (fun i => .bool (f i)) := by
  obtain ⟨A, n, c, V, rfl, _, hm, hr, hx⟩ := read_slice1 ht hc h
  refine ⟨A, n, c, fun i => (match V i with | .bool b => b | _ => false), rfl, hm, hr.congr fun i hi => ?_⟩
  obtain ⟨m, y, hy⟩ := hx i hi
  obtain ⟨b, hb, _⟩ := DataW.trod_bool he hy
  simp only [List.head_eq_of_cons_eq hb]

theorem wf_u8 {z : Int} (h : (Lit.int .u8 z).wf = true) : 0 ≤ z ∧ z ≤ 255 := by
  simp only [Lit.wf, Bool.and_eq_true, decide_eq_true_eq] at h
  exact h

theorem nat_u8 {z : Int} (h : (Lit.int .u8 z).wf = true) : ∃ y : Nat, z = (y : Int) ∧ y < 256 := by
  have := wf_u8 h
  exact ⟨z.toNat, by omega, by omega⟩

theorem nat_u64 {z : Int} (h : (Lit.int .u64 z).wf = true) : ∃ y : Nat, z = (y : Int) ∧ y < 18446744073709551616 := by
  simp only [Lit.wf, Bool.and_eq_true, decide_eq_true_eq] at h
  have h1 : 0 ≤ z := h.1
  have h2 : z ≤ 18446744073709551615 := h.2
  exact ⟨z.toNat, by omega, by omega⟩
theorem wf_i64 {z : Int} (h : (Lit.int .i64 z).wf = true) : -9223372036854775808 ≤ z ∧ z ≤ 9223372036854775807 := by
  simp only [Lit.wf, Bool.and_eq_true, decide_eq_true_eq] at h
  exact ⟨h.1, h.2⟩

theorem read_u8s {t e : TypeId} {fuel : Nat} {v : Value} {x : DataW H × List MemPlace} (ht : P.underlying t = some (.slice e)) (he : P.underlying e = some (.int .u8)) (hc : P.cellsOf e = 1) (h : DataW.trod enc P w base spare held fuel t [v] = some x) :
    ∃ (A : Option Addr) (n c : Nat) (f : Nat → Nat), v = .slice A n c ∧ n ≤ maxLen ∧ Rd w A n (fun i => .int .u8 (f i : Nat)) ∧ ∀ i, f i < 256 := by
  obtain ⟨A, n, c, V, rfl, _, hm, hr, hx⟩ := read_slice1 ht hc h
  refine ⟨A, n, c, fun i => (match V i with | .int .u8 z => z.toNat % 256 | _ => 0), rfl, hm, hr.congr fun i hi => ?_, fun i => by dsimp only; split <;> omega⟩
  obtain ⟨m, y, hy⟩ := hx i hi
  obtain ⟨z, hz, _, hw⟩ := DataW.trod_int he hy
  have := wf_u8 hw
  simp only [List.head_eq_of_cons_eq hz]
  rw [show ((z.toNat % 256 : Nat) : Int) = z by omega]

theorem read_strs {t e : TypeId} {fuel : Nat} {v : Value} {x : DataW H × List MemPlace} (ht : P.underlying t = some (.slice e)) (he : P.underlying e = some .string) (hc : P.cellsOf e = 1) (h : DataW.trod enc P w base spare held fuel t [v] = some x) :
    ∃ (A : Option Addr) (n c : Nat) (f : Nat → ByteArray), v = .slice A n c ∧ n ≤ maxLen ∧ Rd w A n (fun i => .string (f i)) ∧ ∀ i, (f i).size ≤ maxLen := by
  obtain ⟨A, n, c, V, rfl, _, hm, hr, hx⟩ := read_slice1 ht hc h
  refine ⟨A, n, c, fun i => (match V i with | .string s => if s.size ≤ maxLen then s else ⟨#[]⟩ | _ => ⟨#[]⟩), rfl, hm, hr.congr fun i hi => ?_, fun i => by dsimp only; split <;> first | (split; assumption; exact Nat.zero_le _) | exact Nat.zero_le _⟩
  obtain ⟨m, y, hy⟩ := hx i hi
  obtain ⟨s, hs, _, hl⟩ := DataW.trod_string he hy
  simp only [List.head_eq_of_cons_eq hs, if_pos hl]
end
end Go.Proofs.YtgibmkgibkhemaaDoor
