/- An index of names that the call made: Add, named. -/
import Derived.Test.YteipeagdflcjjaaDoorStrs
import Derived.Deep.AppendLies
import Derived.Deep.RegionLaw
import Derived.OwnWalk
namespace Go.Proofs.YteipeagdflcjjaaDoor
open Go.RowKit
set_option linter.unusedSimpArgs false
set_option linter.unusedVariables false

theorem cell_self (w : World) (a : Addr) (u v : Value) (h : w.cell? a = some u) : (w.setCell a v).cell? a = some v := World.cell?_setCell_same _ _ _ h

/-- A block that holds an entry: its name, whether it is skipped. -/
structure Ent (w : World) (b : Nat) (s : ByteArray) (sk : Bool) : Prop where
  name : w.cell? ⟨b, 20, none⟩ = some (.string s)
  skip : w.cell? ⟨b, 32, none⟩ = some (.bool sk)
  free : w.frozen? ⟨b, 32, none⟩ = false
theorem Ent.block {w w' : World} {b : Nat} {s : ByteArray} {sk : Bool} (h : Ent w b s sk) (e : w'.heap[b]? = w.heap[b]?) : Ent w' b s sk :=
  ⟨(World.cell?_of_block (a := ⟨b, 20, none⟩) e).trans h.name, (World.cell?_of_block (a := ⟨b, 32, none⟩) e).trans h.skip, (World.frozen?_of_block (a := ⟨b, 32, none⟩) e).trans h.free⟩

def ptrs (k : Nat) (e : Nat → Nat) : List Value := (List.range k).map fun j => .pointer (some ⟨e j, 0, none⟩)

/-- An index of k entries, in block I; e tells the entries' blocks. -/
structure Idx (w : World) (B I k : Nat) (f : Nat → ByteArray) (sk : Nat → Bool) (v : Value) (e : Nat → Nat) : Prop where
  base : B ≤ I
  lt : I < w.heap.size
  field : w.cell? ⟨I, 1, none⟩ = some v
  free : w.frozen? ⟨I, 1, none⟩ = false
  own : w.ownsRow B 71 1 v k (ptrs k e)
  apart : v.ownBlock ≠ some I
  ents : ∀ j, j < k → B ≤ e j ∧ e j < w.heap.size ∧ e j ≠ I ∧ v.ownBlock ≠ some (e j) ∧ Ent w (e j) (f j) (sk j)
  inj : ∀ i j, i < k → j < k → e i = e j → i = j

theorem ptrs_succ (k : Nat) (e : Nat → Nat) (g : Nat) : ptrs (k + 1) (fun j => if j = k then g else e j) = ptrs k e ++ [.pointer (some ⟨g, 0, none⟩)] := by
  unfold ptrs
  rw [List.range_succ, List.map_append]
  congr 1
  · refine List.map_congr_left fun j hj => ?_
    have : j ≠ k := by have := List.mem_range.mp hj; omega
    simp only [if_neg this]
  · simp

theorem Idx.add {w w3 : World} {B I k : Nat} {f : Nat → ByteArray} {sk : Nat → Bool} {v : Value} {e : Nat → Nat} (h : Idx w B I k f sk v e) (O1 O2 : Obj) (g cap : Nat)
    (hE : Ent (w.alloc O1) w.heap.size (f k) (sk k))
    (hown : w3.ownsRow B 71 1 (.slice (some ⟨g, 0, none⟩) (k + 1) cap) (k + 1) (ptrs k e ++ [.pointer (some ⟨w.heap.size, 0, none⟩)]))
    (hg : ((w.alloc O1).alloc O2).grownBy w3 v.ownBlock) (hat : v.ownBlock = some g ∨ g = w.heap.size + 1 + 1) :
    Idx (w3.setCell ⟨I, 1, none⟩ (.slice (some ⟨g, 0, none⟩) (k + 1) cap)) B I (k + 1) f sk (.slice (some ⟨g, 0, none⟩) (k + 1) cap) (fun j => if j = k then w.heap.size else e j) ∧
      Below B w (w3.setCell ⟨I, 1, none⟩ (.slice (some ⟨g, 0, none⟩) (k + 1) cap)) := by
  have hsz : ((w.alloc O1).alloc O2).heap.size = w.heap.size + 1 + 1 := by rw [heap_new_size, heap_new_size]
  have hvlt := h.own.lt
  have hlt := h.lt
  have hbase := h.base
  have hgI : g ≠ I := by
    rcases hat with hat | hat
    · intro e; subst e; exact h.apart hat
    · omega
  have hold : ∀ b, b < w.heap.size → some b ≠ v.ownBlock → w3.heap[b]? = w.heap[b]? := fun b hb hne => by
    rw [hg.block b (by omega) hne, Below.heap_alloc _ _ _ (by rw [heap_new_size]; omega), Below.heap_alloc _ _ _ hb]
  have hnew : w3.heap[w.heap.size]? = (w.alloc O1).heap[w.heap.size]? := by
    rw [hg.block _ (by omega) (fun e => by have := (hvlt _ e.symm).2; omega), Below.heap_alloc _ _ _ (by rw [heap_new_size]; omega)]
  have hset : ∀ u, ∀ b, b ≠ I → (w3.setCell ⟨I, 1, none⟩ u).heap[b]? = w3.heap[b]? := fun u b hb => Below.heap_setCell _ _ _ _ hb
  have hIc : w3.cell? ⟨I, 1, none⟩ = some v := (World.cell?_of_block (a := ⟨I, 1, none⟩) (hold I hlt (fun e => h.apart e.symm))).trans h.field
  have hIf : w3.frozen? ⟨I, 1, none⟩ = false := (World.frozen?_of_block (a := ⟨I, 1, none⟩) (hold I hlt (fun e => h.apart e.symm))).trans h.free
  have h3 : w.heap.size + 1 + 1 ≤ w3.heap.size := by rw [← hsz]; exact hg.size
  refine ⟨⟨hbase, by rw [size_setCell]; omega, cell_self _ _ _ _ hIc, by simpa using hIf, ?_, ?_, ?_, ?_⟩, ?_⟩
  · rw [ptrs_succ]
    refine hown.kept (row := some I) ⟨rfl, rfl, rfl, by rw [size_setCell]; exact Nat.le_refl _, fun b hb hne => hset _ b (fun e => hne (by rw [e]))⟩ (.inr ?_)
    simpa [Value.ownBlock] using hgI
  · simpa [Value.ownBlock] using hgI
  · intro j hj
    by_cases e0 : j = k
    · subst e0
      simp only [if_true]
      refine ⟨by omega, by rw [size_setCell]; omega, by omega, ?_, hE.block ?_⟩
      · simp only [Value.ownBlock, ne_eq, Option.some.injEq]
        rcases hat with hat | hat
        · have := (hvlt _ hat).2; omega
        · omega
      · rw [hset _ _ (by omega), hnew]
    · simp only [if_neg e0]
      obtain ⟨h1, h2, h4, h5, h6⟩ := h.ents j (by omega)
      refine ⟨h1, by rw [size_setCell]; omega, h4, ?_, h6.block ?_⟩
      · simp only [Value.ownBlock, ne_eq, Option.some.injEq]
        rcases hat with hat | hat
        · intro e; subst e; exact h5 hat
        · omega
      · rw [hset _ _ h4, hold _ h2 (fun e => h5 e.symm)]
  · intro i j hi hj
    by_cases e1 : i = k <;> by_cases e2 : j = k
    · intro _; rw [e1, e2]
    · have := (h.ents j (by omega)).2.1
      simp only [if_pos e1, if_neg e2]; omega
    · have := (h.ents i (by omega)).2.1
      simp only [if_pos e2, if_neg e1]; omega
    · simp only [if_neg e1, if_neg e2]
      exact h.inj i j (by omega) (by omega)
  · refine ⟨?_, ?_, ?_, by rw [size_setCell]; omega, fun b hb => ?_⟩
    · exact hg.os
    · exact hg.tape
    · exact hg.output
    · rw [hset _ _ (by omega), hold b (by omega) (fun e => by have := (hvlt _ e.symm).1; omega)]

theorem Idx.near {w w3 : World} {B I k : Nat} {f : Nat → ByteArray} {sk : Nat → Bool} {v : Value} {e : Nat → Nat} (h : Idx w B I k f sk v e) (O1 O2 : Obj)
    (hg : ((w.alloc O1).alloc O2).grownBy w3 v.ownBlock) : w3.cell? ⟨I, 1, none⟩ = some v ∧ w3.frozen? ⟨I, 1, none⟩ = false := by
  have hlt := h.lt
  have e : w3.heap[I]? = w.heap[I]? := by
    rw [hg.block I (by rw [heap_new_size, heap_new_size]; omega) (fun e => h.apart e.symm), Below.heap_alloc _ _ _ (by rw [heap_new_size]; omega), Below.heap_alloc _ _ _ hlt]
  exact ⟨(World.cell?_of_block (a := ⟨I, 1, none⟩) e).trans h.field, (World.frozen?_of_block (a := ⟨I, 1, none⟩) e).trans h.free⟩

theorem ent_new (w : World) (C : Array Value) (t : TypeId) (s : ByteArray) (sk : Bool) (h1 : C[20]? = some (.string s)) (h2 : C[32]? = some (.bool sk)) : Ent (w.alloc (.cells C t)) w.heap.size s sk := by
  refine ⟨(World.cell?_alloc_mark w C t (0, 0) 20).trans h1, (World.cell?_alloc_mark w C t (0, 0) 32).trans h2, ?_⟩
  simp only [World.frozen?, heap_new]
  simp

theorem entryPtrInfo : (Tryd.prog.info? 71).map (fun i => (i.zero, i.size, i.bytes)) = some (some (.pointer none), 1, 8) := by kernel_rfl
theorem entryPtrsKind : Tryd.prog.underlying 64 = some (.slice 71) := by kernel_rfl

def AddPost (B I k : Nat) (f : Nat → ByteArray) (sk : Nat → Bool) (w : World) (e : Ending) (w' : World) : Prop :=
  (∃ p, e = .returned p) ∧ (∃ v' e', Idx w' B I (k + 1) f sk v' e') ∧ Below B w w'

set_option maxHeartbeats 400000 in
theorem add_any (B I k : Nat) (f : Nat → ByteArray) (sk : Nat → Bool) (v : Value) (en : Nat → Nat) (w : World) (hk : k ≤ 1000) (hs : sk k = false) (h : Idx w B I k f sk v en) :
    Calls Tryd.prog 52 #[.pointer (some ⟨I, 0, none⟩), .string (f k)] w (AddPost B I k f sk w) := by
  have hlt := h.lt
  have hv := h.field
  have hfr := h.free
  have H := Lib.hid h; clear h
  obtain ⟨i0, hi, hz0, hz1, hz2⟩ := info_parts entryPtrInfo
  go_enter Tryd.func52, Tryd.ntmps52
  go_upto_region 2 with (fail)
  go_wp2_with (at_builtin; refine wpList_append_lies _ rfl (.tmp 13) (.tmp 15) 64 rfl B 71 i0 (.pointer none) 1 8 entryPtrsKind hi hz0 hz1 hz2 rfl (by decide) _ _ _ rfl ((H.out.own.alloc _).alloc _) ⟨w.heap.size + 1, 0, none⟩ 1 1 [.pointer (some ⟨w.heap.size, 0, none⟩)] rfl rfl ?c1 ?c2 (by decide) ?c3 ?c4 ?c5 _ rfl ?_)
  case c1 =>
    intro j u hj
    match j, hj with
    | 0, hj =>
      simp at hj; subst hj
      have := World.cell?_alloc_mark (w.alloc ?_) #[Value.pointer (some ⟨w.heap.size, 0, none⟩)] 71 (0, 0) 0
      rw [heap_new_size] at this
      exact this
  case c2 => intro u hu; simp at hu; subst hu; rfl
  case c3 => unfold maxLen; omega
  case c4 => omega
  case c5 => have := H.out.base; rw [heap_new_size, heap_new_size]; omega
  intro g cap w1 hown hgrow hat hlt1
  obtain ⟨e1, e2⟩ := H.out.near _ _ hgrow
  have R := H.out.add _ _ g cap (ent_new _ _ _ _ _ rfl (by rw [hs]; rfl)) hown hgrow hat
  have HR := Lib.hid R
  clear R hown hgrow hat
  go_wp2
  go_ret
  exact ⟨⟨_, rfl⟩, ⟨_, _, HR.out.1⟩, HR.out.2⟩
theorem Idx.new (w : World) (C : Array Value) (t : TypeId) (f : Nat → ByteArray) (sk : Nat → Bool) (h1 : C[1]? = some (.slice none 0 0)) :
    Idx (w.alloc (.cells C t)) w.heap.size w.heap.size 0 f sk (.slice none 0 0) (fun _ => 0) := by
  refine ⟨Nat.le_refl _, by rw [heap_new_size]; omega, (World.cell?_alloc_mark w C t (0, 0) 1).trans h1, ?_, World.ownsRow_nil _ _ _ _, by simp [Value.ownBlock], fun j h => by omega, fun i j h => by omega⟩
  simp only [World.frozen?, heap_new]
  simp

def NamedPost (n : Nat) (f : Nat → ByteArray) (w : World) (e : Ending) (w' : World) : Prop :=
  ∃ v en, e = .returned (.pointer (some ⟨w.heap.size, 0, none⟩)) ∧ Idx w' w.heap.size w.heap.size n f (fun _ => false) v en ∧ Below w.heap.size w w'

set_option maxHeartbeats 400000 in
theorem named_any (A : Option Addr) (n c : Nat) (f : Nat → ByteArray) (w : World) (hn : n ≤ 1000) (h : Strs w A n f) :
    Calls Tryd.prog 36 #[.slice A n c] w (NamedPost n f w) := by
  have H := Lib.hid h; clear h
  go_enter Tryd.func36, Tryd.ntmps36
  go_upto_region 2 with (fail)
  have HW := Lib.hid (Idx.new w #[.int .u32 2, .slice none 0 0, .pointer none, .pointer none, .pointer none, .int .i64 0, .int .i64 0] 110 f (fun _ => false) rfl)
  have HB := Lib.hid ((Below.refl w.heap.size w).alloc (Nat.le_refl _) (.cells #[.int .u32 2, .slice none 0 0, .pointer none, .pointer none, .pointer none, .int .i64 0, .int .i64 0] 110))
  generalize w.alloc _ = W at HW HB ⊢
  go_wp2
  go_loopw [10] (fun i wr => ∃ k : Nat, k ≤ n ∧ i = .int .i64 k ∧ (∃ v en, Idx wr w.heap.size w.heap.size k f (fun _ => false) v en) ∧ Below w.heap.size w wr) (fun i _ => n - (intOf i).toNat)
  case atStart => exact ⟨0, Nat.zero_le _, rfl, ⟨_, _, HW.out⟩, HB.out⟩
  case round =>
    obtain ⟨k, hk, rfl, ⟨v, en, hidx⟩, hbel⟩ := hrel
    have HI := Lib.hid hidx; clear hidx
    have HBW := Lib.hid hbel
    by_cases hlt : k < n
    · obtain ⟨b, off, rfl, _, hc⟩ := (H.out.below hbel).at k hlt
      clear hbel
      go_wp2_with fail
      with_reducible refine (add_any w.heap.size w.heap.size k f (fun _ => false) v en wr (by omega) rfl HI.out).mono ?_
      rintro e w2 ⟨⟨p, rfl⟩, hx, hb2⟩
      have HX := Lib.hid hx
      have HB2 := Lib.hid hb2
      clear hx hb2
      go_wp2
      go_roundw
      case rel => exact ⟨k + 1, by omega, by go_num, HX.out, HBW.out.trans HB2.out⟩
      case measure => simp [intOf]; omega
    · obtain rfl : k = n := by omega
      clear hbel
      go_wp2
      go_ret
      exact ⟨v, en, rfl, HI.out, HBW.out⟩
end Go.Proofs.YteipeagdflcjjaaDoor
