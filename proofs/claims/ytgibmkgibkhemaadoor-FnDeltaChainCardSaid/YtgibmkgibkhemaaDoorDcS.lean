/- bytes.Buffer, sharply: which row holds its bytes, and that nothing else is touched. -/
import Derived.Test.YtgibmkgibkhemaaDoorDcF
import Derived.Test.YtgibmkgibkhemaaDoorDcR
import Derived.Deep.QuietTactic
import Derived.BigQuiet
namespace Go.Proofs.YtgibmkgibkhemaaDoor
open Go.Shelf Go.RowKit
set_option linter.unusedSimpArgs false
set_option linter.unusedVariables false

/-- All blocks of w but those of X stand in w'. -/
structure Kp (X : Nat → Prop) (w w' : World) : Prop where
  os : w'.os = w.os
  tape : w'.tape = w.tape
  output : w'.output = w.output
  size : w.heap.size ≤ w'.heap.size
  block : ∀ k, k < w.heap.size → ¬ X k → w'.heap[k]? = w.heap[k]?
theorem Kp.refl (X : Nat → Prop) (w : World) : Kp X w w := ⟨rfl, rfl, rfl, Nat.le_refl _, fun _ _ _ => rfl⟩
theorem Kp.trans {X Y : Nat → Prop} {a b c : World} (h : Kp X a b) (k : Kp Y b c) (hYX : ∀ i, i < a.heap.size → Y i → X i) : Kp X a c :=
  ⟨k.os.trans h.os, k.tape.trans h.tape, k.output.trans h.output, Nat.le_trans h.size k.size, fun i hi hX => (k.block i (Nat.lt_of_lt_of_le hi h.size) (fun hY => hX (hYX i hi hY))).trans (h.block i hi hX)⟩
theorem Kp.weak {X Y : Nat → Prop} {a b : World} (h : Kp X a b) (hXY : ∀ i, i < a.heap.size → X i → Y i) : Kp Y a b :=
  ⟨h.os, h.tape, h.output, h.size, fun i hi hY => h.block i hi (fun hX => hY (hXY i hi hX))⟩
theorem Kp.of_below {w w' : World} (h : Below w.heap.size w w') (X : Nat → Prop) : Kp X w w' := ⟨h.os, h.tape, h.output, h.size, fun i hi _ => h.block i hi⟩
theorem Kp.to_below {X : Nat → Prop} {w w' : World} {B : Nat} (h : Kp X w w') (hB : B ≤ w.heap.size) (hX : ∀ i, X i → B ≤ i) : Below B w w' :=
  ⟨h.os, h.tape, h.output, h.size, fun i hi => h.block i (by omega) (fun hx => by have := hX i hx; omega)⟩
theorem Kp.setCell {X : Nat → Prop} {a w : World} (h : Kp X a w) {p : Addr} (hp : X p.block ∨ a.heap.size ≤ p.block) (v : Value) : Kp X a (w.setCell p v) :=
  ⟨h.os, h.tape, h.output, by simpa [World.setCell] using h.size, fun i hi hX => by
    rw [heap_setCell_other (by rintro rfl; rcases hp with hp | hp <;> first | exact hX hp | omega)]
    exact h.block i hi hX⟩
theorem Kp.alloc {X : Nat → Prop} {a w : World} (h : Kp X a w) (o : Obj) : Kp X a (w.alloc o) :=
  ⟨h.os, h.tape, h.output, by rw [heap_new_size]; have := h.size; omega, fun i hi hX => by
    rw [Below.heap_alloc _ _ _ (by have := h.size; omega)]
    exact h.block i hi hX⟩
theorem Kp.drewN {X : Nat → Prop} {a w : World} (h : Kp X a w) (n : Nat) : Kp X a (w.drewN n) := ⟨h.os, h.tape, h.output, h.size, h.block⟩
theorem Kp.setRow {X : Nat → Prop} {a w : World} (h : Kp X a w) {g : Nat} (hp : X g ∨ a.heap.size ≤ g) (C : Array Value) : Kp X a (w.setRow g C) :=
  ⟨h.os, h.tape, h.output, by simpa [World.setRow] using h.size, fun i hi hX => by
    rw [setRow_other _ _ _ _ (by rintro rfl; rcases hp with hp | hp <;> first | exact hX hp | omega)]
    exact h.block i hi hX⟩

abbrev bufT : TypeId := 70
/-- A buffer in block b whose bytes lie in the row r (none: it has no row yet). -/
def BufS (w : World) (b : Nat) (r : Option Nat) (bs : List Value) : Prop :=
  ∃ (lr : Int) (v : Value), w.heap[b]? = some (.cells #[v, .int .i64 0, .int .i8 lr] bufT (0, 0)) ∧
    match r with
    | none => v = .slice none 0 0 ∧ bs = []
    | some g => g ≠ b ∧ ∃ (cap : Nat) (cur : Array Value), v = .slice (some ⟨g, 0, none⟩) bs.length cap ∧ w.heap[g]? = some (.cells cur 5 (0, 0)) ∧ bs.length ≤ cap ∧ cap ≤ maxLen ∧ cur.size = cap ∧ cur.toList.take bs.length = bs
theorem BufS.fresh (w : World) : BufS (w.alloc (.cells #[.slice none 0 0, .int .i64 0, .int .i8 0] bufT)) w.heap.size none [] := ⟨0, _, heap_new _ _, rfl, rfl⟩
theorem BufS.lt {w : World} {b : Nat} {r : Option Nat} {bs : List Value} (h : BufS w b r bs) : b < w.heap.size := by
  obtain ⟨lr, v, hb, _⟩ := h
  exact (Array.getElem?_eq_some_iff.1 hb).1
theorem BufS.ltr {w : World} {b g : Nat} {bs : List Value} (h : BufS w b (some g) bs) : g < w.heap.size := by
  obtain ⟨lr, v, hb, _, cap, cur, _, hg, _⟩ := h
  exact (Array.getElem?_eq_some_iff.1 hg).1
theorem BufS.of_blocks {w w' : World} {b : Nat} {r : Option Nat} {bs : List Value} (h : BufS w b r bs) (hb : w'.heap[b]? = w.heap[b]?) (hr : ∀ g, r = some g → w'.heap[g]? = w.heap[g]?) : BufS w' b r bs := by
  obtain ⟨lr, v, hbk, hm⟩ := h
  refine ⟨lr, v, hb.trans hbk, ?_⟩
  cases r with
  | none => exact hm
  | some g =>
    obtain ⟨h1, cap, cur, h2, h3, h4⟩ := hm
    exact ⟨h1, cap, cur, h2, (hr g rfl).trans h3, h4⟩
theorem BufS.keep {X : Nat → Prop} {w w' : World} {b : Nat} {r : Option Nat} {bs : List Value} (h : BufS w b r bs) (hk : Kp X w w') (hb : ¬ X b) (hr : ∀ g, r = some g → ¬ X g) : BufS w' b r bs :=
  h.of_blocks (hk.block b h.lt hb) (fun g hg => by subst hg; exact hk.block g h.ltr (hr g rfl))

set_option maxHeartbeats 1000000 in
theorem tryGrow_room (b g l cap n : Nat) (lr : Int) (w : World) (hbk : w.heap[b]? = some (.cells #[.slice (some ⟨g, 0, none⟩) l cap, .int .i64 0, .int .i8 lr] bufT (0, 0))) (hlc : l ≤ cap) (hcm : cap ≤ maxLen) (hroom : n ≤ cap - l) :
    Calls Tryd.prog 49 #[.pointer (some ⟨b, 0, none⟩), .int .i64 n] w fun e w' => e = .returned (.tuple #[.int .i64 l, .bool true]) ∧ w' = w.setCell ⟨b, 0, none⟩ (.slice (some ⟨g, 0, none⟩) (l + n) cap) := by
  have c0 : w.cell? ⟨b, 0, none⟩ = some (.slice (some ⟨g, 0, none⟩) l cap) := by rw [Lib.cell_of_heap hbk]; rfl
  have f0 : w.frozen? ⟨b, 0, none⟩ = false := Lib.frozen_of_heap hbk 0
  unfold maxLen at hcm
  have h1 : (n : Int) ≤ (cap : Int) - l := by omega
  have h2 : (l : Int) + n ≤ cap := by omega
  go_enter Tryd.func49, Tryd.ntmps49
  go_wp2
  go_ret2
  exact ⟨rfl, rfl⟩
set_option maxHeartbeats 1000000 in
theorem tryGrow_none (b l cap n : Nat) (A : Option Addr) (w : World) (c0 : w.cell? ⟨b, 0, none⟩ = some (.slice A l cap)) (hlc : l ≤ cap) (hcm : cap ≤ maxLen) (hroom : cap - l < n) :
    Calls Tryd.prog 49 #[.pointer (some ⟨b, 0, none⟩), .int .i64 n] w fun e w' => e = .returned (.tuple #[.int .i64 0, .bool false]) ∧ w' = w := by
  unfold maxLen at hcm
  have h1 : ¬ (n : Int) ≤ (cap : Int) - l := by omega
  go_enter Tryd.func49, Tryd.ntmps49
  go_wp2
  go_ret2
  exact ⟨rfl, rfl⟩
set_option maxHeartbeats 1000000 in
theorem len_s (b l cap : Nat) (A : Option Addr) (w : World) (c0 : w.cell? ⟨b, 0, none⟩ = some (.slice A l cap)) (c1 : w.cell? ⟨b, 1, none⟩ = some (.int .i64 0)) (hl : l ≤ maxLen) :
    Calls Tryd.prog 55 #[.pointer (some ⟨b, 0, none⟩)] w fun e w' => e = .returned (.int .i64 l) ∧ ∃ k, w' = w.drewN k := by
  unfold maxLen at hl
  go_enter Tryd.func55, Tryd.ntmps55
  go_wp2
  go_quiet (fail)
  go_wp2
  go_ret
  exact ⟨rfl, _, rfl⟩
set_option maxHeartbeats 1000000 in
theorem bytes_s (b l cap g : Nat) (w : World) (c0 : w.cell? ⟨b, 0, none⟩ = some (.slice (some ⟨g, 0, none⟩) l cap)) (c1 : w.cell? ⟨b, 1, none⟩ = some (.int .i64 0)) (hl : l ≤ cap) (hc : cap ≤ maxLen) (h1 : 1 ≤ l) :
    Calls Tryd.prog 25 #[.pointer (some ⟨b, 0, none⟩)] w fun e w' => e = .returned (.slice (some ⟨g, 0, none⟩) l cap) ∧ ∃ k, w' = w.drewN k := by
  unfold maxLen at hc
  have hcz : ¬ cap = 0 := by omega
  go_enter Tryd.func25, Tryd.ntmps25
  go_wp2
  go_quiet (fail)
  go_wp2
  go_ret
  exact ⟨rfl, _, rfl⟩
end Go.Proofs.YtgibmkgibkhemaaDoor
