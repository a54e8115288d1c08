/- Small words that all walks of this seat use: numbers of bytes, blocks of bytes that the call made, the three kinds of types. -/
import Derived.Test.YtgibmkgibkhemaaDoorProg
import Derived.WalkKit
import Derived.BigGuardPart
import Derived.WalkSpells
import Derived.WalkLawsBesides
import Derived.Lib.Hide
import Derived.Lib.ConvBytes
import Derived.Laws.BytesArg
namespace Go.Proofs.YtgibmkgibkhemaaDoor
open Go.RowKit

theorem ret_int {k : IntKind} {a b : Int} (h : a = b) : Ending.returned (.int k a) = .returned (.int k b) := by rw [h]
theorem ret_bool {a b : Bool} (h : a = b) : Ending.returned (.bool a) = .returned (.bool b) := by rw [h]

/-! ## Strings as lists of numbers -/
def nb (s : ByteArray) : List Nat := s.data.toList.map UInt8.toNat
def bx (s : ByteArray) (k : Nat) : Nat := (nb s).getD k 0

theorem nb_length (s : ByteArray) : (nb s).length = s.size := by
  rw [nb, List.length_map, Array.length_toList]; rfl
theorem nb_lt {s : ByteArray} {c : Nat} (h : c ∈ nb s) : c < 256 := by
  simp only [nb, List.mem_map] at h
  obtain ⟨a, _, rfl⟩ := h
  exact a.toNat_lt
theorem bx_lt (s : ByteArray) (k : Nat) : bx s k < 256 := by
  unfold bx
  rw [List.getD_eq_getElem?_getD]
  rcases h : (nb s)[k]? with _ | c
  · simp
  · exact nb_lt (List.mem_of_getElem? h)
theorem bx_toList (s : ByteArray) (k : Nat) : (s.data.toList.getD k 0).toNat = bx s k := by
  unfold bx nb
  rw [List.getD_eq_getElem?_getD, List.getD_eq_getElem?_getD, List.getElem?_map]
  rcases s.data.toList[k]? with _ | c <;> rfl
theorem bx_get (s : ByteArray) (k : Nat) (h : k < s.size) : (s[k]'h).toNat = bx s k := by
  rw [← bx_toList, List.getD_eq_getElem?_getD, List.getElem?_eq_getElem (by simpa using h)]
  rfl
theorem bx_getElem (s : ByteArray) (k : Nat) (h : k < (nb s).length) : (nb s)[k] = bx s k := by
  unfold bx
  rw [List.getD_eq_getElem?_getD, List.getElem?_eq_getElem h]; rfl
theorem nb_inj {r s : ByteArray} (h : nb r = nb s) : r = s := by
  obtain ⟨r⟩ := r
  obtain ⟨s⟩ := s
  have h2 : r.toList = s.toList := by
    have h3 : Function.Injective UInt8.toNat := fun a b h => UInt8.toNat_inj.mp h
    exact (List.map_inj_right (fun _ _ h => h3 h)).mp h
  rw [show r = s from by simpa using h2]
theorem nb_append (r s : ByteArray) : nb (r ++ s) = nb r ++ nb s := by simp [nb]
theorem nb_extract (s : ByteArray) (a b : Nat) : nb (s.extract a b) = ((nb s).drop a).take (b - a) := by
  unfold nb
  rw [ByteArray.data_extract, Array.toList_extract, List.extract_eq_take_drop, List.map_take, List.map_drop]
theorem extract_le (s : ByteArray) (a b m : Nat) (h : s.size ≤ m) : (s.extract a b).size ≤ m := by
  rw [ByteArray.size_extract]; omega
theorem nb_mk (l : List UInt8) : nb ⟨l.toArray⟩ = l.map UInt8.toNat := by simp [nb]

theorem toList_data (s : ByteArray) : s.toList = s.data.toList := ByteArray.toList_eq s
theorem beq_str (r : ByteArray) (l : List UInt8) : (r.toList == l) = (nb r == l.map UInt8.toNat) := by
  have h3 : Function.Injective UInt8.toNat := fun a b h => UInt8.toNat_inj.mp h
  rw [toList_data, nb, Bool.eq_iff_iff, beq_iff_eq, beq_iff_eq]
  exact ⟨fun h => by rw [h], fun h => (List.map_inj_right (fun _ _ h => h3 h)).mp h⟩
theorem beq_str2 (r s : ByteArray) : (r.toList == s.toList) = (nb r == nb s) := by
  rw [beq_str, toList_data]; rfl

theorem isEmpty_str (s : ByteArray) (h : s.size = 0) : s.toList.isEmpty = true := by
  rw [toList_data, List.isEmpty_iff, ← List.length_eq_zero_iff, Array.length_toList]; exact h
theorem isEmpty_str_not (s : ByteArray) (h : s.size ≠ 0) : s.toList.isEmpty = false := by
  rw [Bool.eq_false_iff, toList_data, ne_eq, List.isEmpty_iff, ← List.length_eq_zero_iff, Array.length_toList]; exact h

theorem bx_extract (s : ByteArray) (a b j : Nat) (h : a + j < b) : bx (s.extract a b) j = bx s (a + j) := by
  unfold bx
  rw [nb_extract, List.getD_eq_getElem?_getD, List.getD_eq_getElem?_getD, List.getElem?_take_of_lt (by omega), List.getElem?_drop]

/-! ## The row of bytes that '[]byte(s)' made -/
/-- The cells of a block from 0 on are these numbers, and may be written. -/
def BytesAt (w : World) (b : Nat) (n : Nat) (f : Nat → Nat) : Prop :=
  ∀ j, j < n → w.cell? ⟨b, j, none⟩ = some (.int .u8 (f j)) ∧ w.frozen? ⟨b, j, none⟩ = false

theorem byteKind : Tryd.prog.underlying 5 = some (.int .u8) := by kernel_rfl
theorem bytesKind : Tryd.prog.underlying 38 = some (.slice 5) := by kernel_rfl
theorem strKind : Tryd.prog.underlying 9 = some .string := by kernel_rfl

theorem bytesBelow (w : World) (e : TypeId) (s : ByteArray) : Below w.heap.size w (Lib.bytesWorld w e s) :=
  ⟨by simp [Lib.bytesWorld, World.freeze, World.alloc, World.drew, -World.alloc_eq, -World.drew_eq], by simp [Lib.bytesWorld, World.freeze, World.alloc, World.drew, -World.alloc_eq, -World.drew_eq], by simp [Lib.bytesWorld, World.freeze, World.alloc, World.drew, -World.alloc_eq, -World.drew_eq], by rw [Lib.bytesWorld_size]; omega, fun k hk => Lib.bytesWorld_at_old w e s k hk⟩

theorem bytesAt_new (w : World) (e : TypeId) (s : ByteArray) : BytesAt (Lib.bytesWorld w e s) w.heap.size s.size (bx s) := by
  intro j hj
  refine ⟨by rw [Lib.bytesWorld_cell w e s j hj, bx_toList], ?_⟩
  have h : s.size ≤ (Lib.bytesCells w e s).size := by
    unfold Lib.bytesCells
    rw [Array.size_append, Array.size_map]
    exact Nat.le_add_right _ _
  simp only [World.frozen?, Lib.bytesWorld_at_new]
  simp
  omega

theorem BytesAt.set {w : World} {b n k : Nat} {f : Nat → Nat} (h : BytesAt w b n f) (x : Nat) : BytesAt (w.setCell ⟨b, k, none⟩ (.int .u8 x)) b n (fun j => if j = k then x else f j) := by
  intro j hj
  obtain ⟨h1, h2⟩ := h j hj
  by_cases e : j = k
  · subst e
    refine ⟨?_, by simpa using h2⟩
    simp only [if_true]
    exact World.cell?_setCell_same _ _ _ h1
  · refine ⟨?_, by simpa using h2⟩
    show _ = some (Value.int .u8 ((if j = k then x else f j : Nat) : Int))
    rw [if_neg e, ← h1]
    exact World.cell?_setCell_other _ _ _ _ (fun h => e (congrArg Addr.off h).symm)

theorem BytesAt.congr {w : World} {b n : Nat} {f g : Nat → Nat} (h : BytesAt w b n f) (e : ∀ j, j < n → f j = g j) : BytesAt w b n g := by
  intro j hj
  rw [← e j hj]; exact h j hj

theorem size_setCell (w : World) (a : Addr) (v : Value) : (w.setCell a v).heap.size = w.heap.size := by simp [World.setCell]

/-- The string that is read from a block. -/
theorem BytesAt.str {w : World} {b n : Nat} {f : Nat → Nat} (h : BytesAt w b n f) (cap : Nat) :
    (convert 38 9 (.slice (some ⟨b, 0, none⟩) n cap)).run Tryd.prog w = .ok (.string (strOfNums ((List.range n).map fun j => (f j : Int)))) w := by
  refine run_convert_bytes_arg w 38 5 bytesKind byteKind b 0 n cap _ (by simp) (fun i hi => ?_) 9 strKind
  rw [Nat.zero_add, (h i hi).1]
  simp [List.getD, hi]

theorem nb_strOfNums (l : List Nat) (h : ∀ c ∈ l, c < 256) : nb (strOfNums (l.map fun c : Nat => (c : Int))) = l := by
  rw [nb, strOfNums_data, List.map_map, List.map_map]
  conv => rhs; rw [← List.map_id l]
  refine List.map_congr_left fun c hc => ?_
  simp
  exact h c hc

theorem heap_new (w : World) (o : Obj) : (w.alloc o).heap[w.heap.size]? = some o := by
  show (w.heap.push o)[w.heap.size]? = _
  simp
theorem heap_new_size (w : World) (o : Obj) : (w.alloc o).heap.size = w.heap.size + 1 := by
  show (w.heap.push o).size = _
  simp

/-! ## Small letters -/
def lowN (c : Nat) : Nat := if 65 ≤ c ∧ c ≤ 90 then c + 32 else c
def lowS (l : List Nat) : List Nat := l.map lowN
theorem lowN_lt {c : Nat} (h : c < 256) : lowN c < 256 := by unfold lowN; split <;> omega

end Go.Proofs.YtgibmkgibkhemaaDoor
