/- bytes.Buffer.grow, sharply. -/
import Derived.Test.YtgibmkgibkhemaaDoorDcS
import Derived.Shelf.RegionOpenPlain
import Derived.Shelf.Bytes.GrowSlice
import Derived.Lib.BufferGrow
import Derived.Lib.ByteType
import Derived.Lib.Walk
import Derived.RegionTactic
import Derived.Deep.RegionWith
import Derived.Deep.Draws
import Derived.StillTailTactics
namespace Go.Proofs.YtgibmkgibkhemaaDoor
open Go.Shelf Go.RowKit
set_option linter.unusedSimpArgs false
set_option linter.unusedVariables false

def GrownS (b l n : Nat) (bs : List Value) (w : World) (e : Ending) (w' : World) : Prop :=
  e = .returned (.int .i64 l) ∧ ∃ (xs : List Value) (N : Nat), xs.length = n ∧ w.heap.size ≤ N ∧ BufS w' b (some N) (bs ++ xs) ∧ Kp (fun k => k = b) w w'

def GsPost (l n : Nat) (cur : Array Value) (w : World) (e : Ending) (w' : World) : Prop :=
  ∃ (cap2 : Nat) (cells : Array Value), e = .returned (.slice (some ⟨w.heap.size, 0, none⟩) l cap2) ∧ w'.heap[w.heap.size]? = some (.cells cells 5 (0, 0)) ∧
    cells.size = cap2 ∧ cells.toList.take l = cur.toList.take l ∧ l + n ≤ cap2 ∧ cap2 ≤ maxLen ∧ Below w.heap.size w w'
theorem growSlice_row (g l c n : Nat) (cur : Array Value) (w : World) (hg : w.heap[g]? = some (.cells cur 5 (0, 0))) (hcs : cur.size = c) (hlc : l ≤ c) (hn : 1 ≤ n)
    (hlim : l + n ≤ 140737488355328) (hc2 : c ≤ 140737488355328) (h1 : ∀ v ∈ cur.toList.take l, v.oneCell' = true) :
    Calls Tryd.prog 58 #[.slice (some ⟨g, 0, none⟩) l c, .int .i64 n] w (GsPost l n cur w) :=
  Any.bytes_growSlice_row { layGrow with } g l c n cur w hg hcs hlc hn hlim hc2 h1

theorem grow_fin {b l n N cap2 : Nat} {lr : Int} {cells : Array Value} {v0 v1 : Value} {bs : List Value} {w w2 : World} (hbk2 : w2.heap[b]? = some (.cells #[v0, .int .i64 0, .int .i8 lr] bufT (0, 0)))
    (hN : w2.heap[N]? = some (.cells cells 5 (0, 0))) (hNb : N ≠ b) (hNw : w.heap.size ≤ N) (hcsz : cells.size = cap2) (htk : cells.toList.take l = bs) (hl : bs.length = l) (hcap2 : l + n ≤ cap2) (hcm2 : cap2 ≤ maxLen) (hK : Kp (fun k => k = b) w w2) :
    ∃ (xs : List Value) (N' : Nat), xs.length = n ∧ w.heap.size ≤ N' ∧ BufS (((w2.setCell ⟨b, 0, none⟩ v1).setCell ⟨b, 1, none⟩ (.int .i64 0)).setCell ⟨b, 0, none⟩ (.slice (some ⟨N, 0, none⟩) (l + n) cap2)) b (some N') (bs ++ xs) ∧
      Kp (fun k => k = b) w (((w2.setCell ⟨b, 0, none⟩ v1).setCell ⟨b, 1, none⟩ (.int .i64 0)).setCell ⟨b, 0, none⟩ (.slice (some ⟨N, 0, none⟩) (l + n) cap2)) := by
  obtain ⟨xs, hxl, hxs⟩ := Lib.take_split cells.toList l n (by rw [Array.length_toList, hcsz]; exact hcap2)
  have hbl : (bs ++ xs).length = l + n := by rw [List.length_append, hl, hxl]
  refine ⟨xs, N, hxl, hNw, ⟨lr, _, heap_setCell_same (heap_setCell_same (heap_setCell_same hbk2 _) _) _, hNb, cap2, cells, by rw [hbl], ?_, by rw [hbl]; exact hcap2, hcm2, hcsz, ?_⟩, ((hK.setCell (p := ⟨b, 0, none⟩) (.inl rfl) _).setCell (p := ⟨b, 1, none⟩) (.inl rfl) _).setCell (p := ⟨b, 0, none⟩) (.inl rfl) _⟩
  · rw [heap_setCell_other (by exact fun e => hNb e.symm), heap_setCell_other (by exact fun e => hNb e.symm), heap_setCell_other (by exact fun e => hNb e.symm)]
    exact hN
  · rw [hbl, hxs, htk]
set_option maxRecDepth 100000 in
set_option maxHeartbeats 8000000 in
theorem grow_row (b g l cap n : Nat) (lr : Int) (cur : Array Value) (bs : List Value) (w : World)
    (hbk : w.heap[b]? = some (.cells #[.slice (some ⟨g, 0, none⟩) l cap, .int .i64 0, .int .i8 lr] bufT (0, 0)))
    (hl : bs.length = l) (hg : w.heap[g]? = some (.cells cur 5 (0, 0))) (hlc : l ≤ cap) (hcm : cap ≤ maxLen) (hcs : cur.size = cap) (htake : cur.toList.take l = bs) (hgb : g ≠ b)
    (h1 : ∀ v ∈ bs, v.oneCell' = true) (hn : 1 ≤ n) (hroom : cap - l < n) (hlim : l + n ≤ 1000000) :
    Calls Tryd.prog 45 #[.pointer (some ⟨b, 0, none⟩), .int .i64 n] w (GrownS b l n bs w) := by
  have hnil : ∀ W, (binOp .eql 38 (.slice (some ⟨g, 0, none⟩) l cap) (.slice none 0 0)).run Tryd.prog W = .ok (.bool false) W := fun W => Lib.run_eql_slice_some_nil W _ _ _ bytesKind
  have c0 : w.cell? ⟨b, 0, none⟩ = some (.slice (some ⟨g, 0, none⟩) l cap) := by rw [Lib.cell_of_heap hbk]; rfl
  have c1 : w.cell? ⟨b, 1, none⟩ = some (.int .i64 0) := by rw [Lib.cell_of_heap hbk]; rfl
  have HLEN := Lib.hid (len_s b l cap _ w c0 c1 (Nat.le_trans hlc hcm))
  have HG := Lib.hid hg; have HBK := Lib.hid hbk
  have hm0 : ((l : Int) == 0) = true ∨ ((l : Int) == 0) = false := by cases ((l : Int) == 0) <;> simp
  clear c0 c1 hg hbk
  go_enter Tryd.func45, Tryd.ntmps45
  go_wp2_with fail
  with_reducible refine HLEN.out.mono ?_
  rintro e w' ⟨rfl, k, rfl⟩
  have hbk0 : (w.drewN k).heap[b]? = some (.cells #[.slice (some ⟨g, 0, none⟩) l cap, .int .i64 0, .int .i8 lr] bufT (0, 0)) := HBK.out
  have hg0 : (w.drewN k).heap[g]? = some (.cells cur 5 (0, 0)) := HG.out
  have hK0 : Kp (fun k => k = b) w (w.drewN k) := (Kp.refl _ _).drewN k
  have hsz0 : (w.drewN k).heap.size = w.heap.size := rfl
  generalize w.drewN k = W0 at hbk0 hg0 hK0 hsz0 ⊢
  have HBK0 := Lib.hid hbk0; have HG0 := Lib.hid hg0; have HK0 := Lib.hid hK0; have HSZ0 := Lib.hid hsz0
  have c0 : W0.cell? ⟨b, 0, none⟩ = some (.slice (some ⟨g, 0, none⟩) l cap) := by rw [Lib.cell_of_heap hbk0]; rfl
  have c1 : W0.cell? ⟨b, 1, none⟩ = some (.int .i64 0) := by rw [Lib.cell_of_heap hbk0]; rfl
  have f0 : W0.frozen? ⟨b, 0, none⟩ = false := Lib.frozen_of_heap hbk0 0
  have f1 : W0.frozen? ⟨b, 1, none⟩ = false := Lib.frozen_of_heap hbk0 1
  have HTG := Lib.hid (tryGrow_none b l cap n _ W0 c0 hlc hcm hroom)
  have hcm' := hcm
  unfold maxLen at hcm'
  clear hbk0 hg0 hK0 hsz0 HLEN HG HBK
  rcases hm0 with hm0 | hm0
  · go_wp2_with fail
    with_reducible refine HTG.out.mono ?_
    rintro e w' ⟨rfl, rfl⟩
    go_wp2_with fail
    have hwn : IntKind.i64.wrap (n : Int) = n := by rw [IntKind.wrap_i64]; omega
    have hc2 : cap ≤ 140737488355328 := by omega
    have hlim2 : l + n ≤ 140737488355328 := by omega
    have h1' : ∀ v ∈ cur.toList.take l, v.oneCell' = true := by rw [htake]; exact h1
    have hbW := Lib.lt_of_heap HBK0.out
    have mixed := layGrow.mixed
    clear HTG hm0
    go_region_with_o (
      go_at_call 58
      refine (growSlice_row g l cap n cur _ ?_ hcs hlc hn hlim2 hc2 h1').mono ?_
      exact HG0.out
      rintro e w2 ⟨cap2, cells, rfl, hN, hcsz, htk, hcap2, hcm2, hbel⟩
      have hbk2 : w2.heap[b]? = some (.cells #[.slice (some ⟨g, 0, none⟩) l cap, .int .i64 0, .int .i8 lr] bufT (0, 0)) := (hbel.block b hbW).trans HBK0.out
      have d0 : w2.cell? ⟨b, 0, none⟩ = some (.slice (some ⟨g, 0, none⟩) l cap) := by rw [Lib.cell_of_heap hbk2]; rfl
      have d1 : w2.cell? ⟨b, 1, none⟩ = some (.int .i64 0) := by rw [Lib.cell_of_heap hbk2]; rfl
      have e0 : w2.frozen? ⟨b, 0, none⟩ = false := Lib.frozen_of_heap hbk2 0
      have e1 : w2.frozen? ⟨b, 1, none⟩ = false := Lib.frozen_of_heap hbk2 1)
    all_goals (
      go_wp2
      go_ret
      have hwW := HK0.out
      have hK1 : Kp (fun k => k = b) w w'.drew := ⟨hwW.os, hwW.tape, hwW.output, hwW.size, hwW.block⟩
      have hK2 : Kp (fun k => k = b) w w2 := hK1.trans (Kp.of_below (w := w'.drew) hbel (fun k => k = b)) (fun _ _ h => h)
      obtain ⟨xs, N', q1, q2, q3, q4⟩ := grow_fin (n := n) (v1 := .slice (some ⟨w'.heap.size, 0, none⟩) l cap2) hbk2 hN (by show w'.heap.size ≠ b; omega) (by show w.heap.size ≤ w'.heap.size; exact hwW.size) hcsz (htk.trans htake) hl hcap2 hcm2 hK2
      exact ⟨rfl, xs, N', q1, q2, q3, q4⟩)
  · go_wp2_with fail
    with_reducible refine HTG.out.mono ?_
    rintro e w' ⟨rfl, rfl⟩
    go_wp2_with fail
    have hwn : IntKind.i64.wrap (n : Int) = n := by rw [IntKind.wrap_i64]; omega
    have hc2 : cap ≤ 140737488355328 := by omega
    have hlim2 : l + n ≤ 140737488355328 := by omega
    have h1' : ∀ v ∈ cur.toList.take l, v.oneCell' = true := by rw [htake]; exact h1
    have hbW := Lib.lt_of_heap HBK0.out
    have mixed := layGrow.mixed
    clear HTG hm0
    go_region_with_o (
      go_at_call 58
      refine (growSlice_row g l cap n cur _ ?_ hcs hlc hn hlim2 hc2 h1').mono ?_
      exact HG0.out
      rintro e w2 ⟨cap2, cells, rfl, hN, hcsz, htk, hcap2, hcm2, hbel⟩
      have hbk2 : w2.heap[b]? = some (.cells #[.slice (some ⟨g, 0, none⟩) l cap, .int .i64 0, .int .i8 lr] bufT (0, 0)) := (hbel.block b hbW).trans HBK0.out
      have d0 : w2.cell? ⟨b, 0, none⟩ = some (.slice (some ⟨g, 0, none⟩) l cap) := by rw [Lib.cell_of_heap hbk2]; rfl
      have d1 : w2.cell? ⟨b, 1, none⟩ = some (.int .i64 0) := by rw [Lib.cell_of_heap hbk2]; rfl
      have e0 : w2.frozen? ⟨b, 0, none⟩ = false := Lib.frozen_of_heap hbk2 0
      have e1 : w2.frozen? ⟨b, 1, none⟩ = false := Lib.frozen_of_heap hbk2 1)
    all_goals (
      go_wp2
      go_ret
      have hwW := HK0.out
      have hK1 : Kp (fun k => k = b) w w'.drew := ⟨hwW.os, hwW.tape, hwW.output, hwW.size, hwW.block⟩
      have hK2 : Kp (fun k => k = b) w w2 := hK1.trans (Kp.of_below (w := w'.drew) hbel (fun k => k = b)) (fun _ _ h => h)
      obtain ⟨xs, N', q1, q2, q3, q4⟩ := grow_fin (n := n) (v1 := .slice (some ⟨w'.heap.size, 0, none⟩) l cap2) hbk2 hN (by show w'.heap.size ≠ b; omega) (by show w.heap.size ≤ w'.heap.size; exact hwW.size) hcsz (htk.trans htake) hl hcap2 hcm2 hK2
      exact ⟨rfl, xs, N', q1, q2, q3, q4⟩)
end Go.Proofs.YtgibmkgibkhemaaDoor
