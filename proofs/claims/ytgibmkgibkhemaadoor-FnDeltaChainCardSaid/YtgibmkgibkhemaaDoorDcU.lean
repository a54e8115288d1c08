/- bytes.Buffer: WriteByte, Write, Reset, sharply. -/
import Derived.Test.YtgibmkgibkhemaaDoorDcT
import Derived.Laws.IdiomCopy
import Derived.Lib.BufferWrite
import Derived.Handy
namespace Go.Proofs.YtgibmkgibkhemaaDoor
open Go.Shelf Go.RowKit
set_option linter.unusedSimpArgs false
set_option linter.unusedVariables false

theorem u8Inf : (Tryd.prog.info? 5).map (fun i => (i.zero, i.size, i.bytes)) = some (some (.int .u8 0), 1, 1) := by kernel_rfl
theorem make64 (n : Nat) (h : n ≤ 64) (w : World) : (Instr.makeSlice 38 (.int .i64 (n : Int)) (.int .i64 64)).run Tryd.prog w = .ok (.slice (some ⟨w.heap.size, 0, none⟩) n 64) (w.alloc (.cells (madeCells #[.int .u8 0] 64) 5)) := by
  obtain ⟨i, hi, hzz⟩ := Option.map_eq_some_iff.1 u8Inf
  simp only [Prod.mk.injEq] at hzz
  obtain ⟨hz, hs, hb⟩ := hzz
  have hr := run_make (P := Tryd.prog) w 38 5 i (.int .u8 0) bytesKind hi hz .i64 .i64 n 64 (by omega) (by omega) (by rw [hb]; decide) (by decide)
  simp only [Int.toNat_natCast, hs, Nat.mul_one] at hr
  exact hr
set_option maxRecDepth 100000 in
set_option maxHeartbeats 2000000 in
/-- The first bytes of a buffer that has no row: at most 64 of them. -/
theorem grow_nil (b n : Nat) (lr : Int) (w : World) (hbk : w.heap[b]? = some (.cells #[.slice none 0 0, .int .i64 0, .int .i8 lr] bufT (0, 0))) (hn : 1 ≤ n) (h64 : n ≤ 64) :
    Calls Tryd.prog 45 #[.pointer (some ⟨b, 0, none⟩), .int .i64 n] w (GrownS b 0 n [] w) := by
  have hnil : ∀ W, (binOp .eql 38 (.slice none 0 0) (.slice none 0 0)).run Tryd.prog W = .ok (.bool true) W := fun W => by kernel_rfl
  have c0 : w.cell? ⟨b, 0, none⟩ = some (.slice none 0 0) := by rw [Lib.cell_of_heap hbk]; rfl
  have c1 : w.cell? ⟨b, 1, none⟩ = some (.int .i64 0) := by rw [Lib.cell_of_heap hbk]; rfl
  have HLEN := Lib.hid (len_s b 0 0 _ w c0 c1 (by decide))
  have HBK := Lib.hid hbk
  clear c0 c1 hbk
  go_enter Tryd.func45, Tryd.ntmps45
  go_wp2_with fail
  with_reducible refine HLEN.out.mono ?_
  rintro e w' ⟨rfl, k, rfl⟩
  have hbk0 : (w.drewN k).heap[b]? = some (.cells #[.slice none 0 0, .int .i64 0, .int .i8 lr] bufT (0, 0)) := HBK.out
  have hK0 : Kp (fun k => k = b) w (w.drewN k) := (Kp.refl _ _).drewN k
  generalize w.drewN k = W0 at hbk0 hK0 ⊢
  have HBK0 := Lib.hid hbk0; have HK0 := Lib.hid hK0
  have c0 : W0.cell? ⟨b, 0, none⟩ = some (.slice none 0 0) := by rw [Lib.cell_of_heap hbk0]; rfl
  have c1 : W0.cell? ⟨b, 1, none⟩ = some (.int .i64 0) := by rw [Lib.cell_of_heap hbk0]; rfl
  have f0 : W0.frozen? ⟨b, 0, none⟩ = false := Lib.frozen_of_heap hbk0 0
  have HTG := Lib.hid (tryGrow_none b 0 0 n _ W0 c0 (Nat.le_refl _) (by decide) (by omega))
  have hbW := Lib.lt_of_heap hbk0
  have hmk := make64 n h64 W0
  clear hbk0 hK0 HLEN HBK
  go_wp2_with fail
  with_reducible refine HTG.out.mono ?_
  rintro e w' ⟨rfl, rfl⟩
  go_wp2
  go_ret
  obtain ⟨xs, hxl, hxs⟩ := Lib.take_split (madeCells #[.int .u8 0] 64).toList 0 n (by rw [Array.length_toList, size_madeCells]; omega)
  have hbl : xs.length = n := hxl
  refine ⟨rfl, xs, w'.heap.size, hxl, HK0.out.size, ⟨lr, _, ?_, by omega, 64, madeCells #[.int .u8 0] 64, by rw [List.nil_append, hbl], ?_, by rw [List.nil_append, hbl]; exact h64, by decide, size_madeCells _ _, ?_⟩, (HK0.out.setCell (p := ⟨b, 0, none⟩) (.inl rfl) _).alloc _⟩
  · rw [Below.heap_alloc _ _ _ (by simpa [World.setCell] using hbW)]
    exact heap_setCell_same HBK0.out _
  · have := heap_new (w'.setCell ⟨b, 0, none⟩ (.slice (some ⟨w'.heap.size, 0, none⟩) n 64)) (.cells (madeCells #[.int .u8 0] 64) 5)
    simpa [World.setCell] using this
  · rw [List.nil_append, hbl]
    simpa using hxs

def WrS (b : Nat) (r : Option Nat) (bs : List Value) (v : Value) (w : World) (e : Ending) (w' : World) : Prop :=
  e = .returned v ∧ ∃ r', BufS w' b (some r') bs ∧ Kp (fun k => k = b ∨ r = some k) w w' ∧ (r = some r' ∨ w.heap.size ≤ r')
/-- Room has been made: what a writer holds ahead of its writing. -/
def Made (b : Nat) (r : Option Nat) (bs : List Value) (n : Nat) (w W : World) : Prop :=
  ∃ (g : Nat) (xs : List Value), xs.length = n ∧ BufS W b (some g) (bs ++ xs) ∧ Kp (fun k => k = b ∨ r = some k) w W ∧ (r = some g ∨ w.heap.size ≤ g)
theorem BufS.last {w : World} {b : Nat} {r : Option Nat} {bs : List Value} (h : BufS w b r bs) : BufS (w.setCell ⟨b, 2, none⟩ (.int .i8 0)) b r bs := by
  obtain ⟨lr, v, hbk, hm⟩ := h
  refine ⟨0, v, heap_setCell_same hbk _, ?_⟩
  cases r with
  | none => exact hm
  | some g =>
    obtain ⟨h1, cap, cur, h2, h3, h4⟩ := hm
    exact ⟨h1, cap, cur, h2, by rw [heap_setCell_other (by exact fun e => h1 e.symm)]; exact h3, h4⟩
theorem made_room {w W0 : World} {b g cap n : Nat} {cur : Array Value} {lr : Int} {bs : List Value} (hbk : W0.heap[b]? = some (.cells #[.slice (some ⟨g, 0, none⟩) bs.length cap, .int .i64 0, .int .i8 lr] bufT (0, 0))) (hgb : g ≠ b)
    (hg : W0.heap[g]? = some (.cells cur 5 (0, 0))) (hcm : cap ≤ maxLen) (hcs : cur.size = cap) (htk : cur.toList.take bs.length = bs) (hroom : n ≤ cap - bs.length) (hlc : bs.length ≤ cap)
    (hK : Kp (fun k => k = b ∨ some g = some k) w W0) : Made b (some g) bs n w (W0.setCell ⟨b, 0, none⟩ (.slice (some ⟨g, 0, none⟩) (bs.length + n) cap)) := by
  have hcl : cur.toList.length = cap := Array.length_toList.trans hcs
  obtain ⟨xs, hxl, hxs⟩ := Lib.take_split cur.toList bs.length n (by omega)
  have hbl : (bs ++ xs).length = bs.length + n := by rw [List.length_append, hxl]
  refine ⟨g, xs, hxl, ⟨lr, _, heap_setCell_same hbk _, hgb, cap, cur, by rw [hbl], ?_, by rw [hbl]; omega, hcm, hcs, by rw [hbl, hxs, htk]⟩, hK.setCell (p := ⟨b, 0, none⟩) (.inl (.inl rfl)) _, .inl rfl⟩
  rw [heap_setCell_other (by exact fun e => hgb e.symm)]
  exact hg
theorem made_grown {w W0 W : World} {b l n : Nat} {r : Option Nat} {bs : List Value} {e : Ending} (h : GrownS b l n bs W0 e W) (hK : Kp (fun k => k = b ∨ r = some k) w W0) : e = .returned (.int .i64 l) ∧ Made b r bs n w W := by
  obtain ⟨h1, xs, N, h2, h3, h4, h5⟩ := h
  exact ⟨h1, N, xs, h2, h4, hK.trans h5 (fun i _ hi => .inl hi), .inr (Nat.le_trans hK.size h3)⟩
theorem store_fin {W : World} {b g : Nat} {bs : List Value} {x : Value} (y : Value) (h : BufS W b (some g) (bs ++ [x])) : BufS (W.setCell ⟨g, bs.length, none⟩ y) b (some g) (bs ++ [y]) := by
  obtain ⟨lr, v, hbk, hgb, cap, cur, hv, hg, hlc, hcm, hcs, htk⟩ := h
  have hl : (bs ++ [x]).length = bs.length + 1 := by simp
  have hl2 : (bs ++ [y]).length = bs.length + 1 := by simp
  rw [hl] at hv hlc htk
  refine ⟨lr, v, ?_, hgb, cap, cur.setIfInBounds bs.length y, by rw [hl2]; exact hv, heap_setCell_same hg _, by rw [hl2]; exact hlc, hcm, by rw [Array.size_setIfInBounds]; exact hcs, ?_⟩
  · rw [heap_setCell_other (by exact hgb)]; exact hbk
  · rw [hl2, Array.toList_setIfInBounds]
    have e1 : cur.toList.take bs.length = bs := by
      have h3 := congrArg (List.take bs.length) htk
      rwa [List.take_take, Nat.min_eq_left (Nat.le_add_right _ _), List.take_left' rfl] at h3
    have hcl : cur.toList.length = cap := Array.length_toList.trans hcs
    rw [List.take_add_one, List.take_set_of_le (Nat.le_refl _), e1, List.getElem?_set_self (by omega)]
    rfl
set_option maxRecDepth 100000 in
set_option maxHeartbeats 4000000 in
theorem writeByte_s (b : Nat) (r : Option Nat) (bs : List Value) (c : Int) (w : World) (h : BufS w b r bs) (h1 : ∀ v ∈ bs, v.oneCell' = true) (hlim : bs.length + 1 ≤ 1000000) :
    Calls Tryd.prog 40 #[.pointer (some ⟨b, 0, none⟩), .int .u8 c] w (WrS b r (bs ++ [.int .u8 c]) .nilIface w) := by
  have hl := h.last
  have hK0 : Kp (fun k => k = b ∨ r = some k) w (w.setCell ⟨b, 2, none⟩ (.int .i8 0)) := (Kp.refl _ _).setCell (p := ⟨b, 2, none⟩) (.inl (.inl rfl)) _
  obtain ⟨lr0, v0, hbk0, -⟩ := h
  have c2 : w.cell? ⟨b, 2, none⟩ = some (.int .i8 lr0) := by rw [Lib.cell_of_heap hbk0]; rfl
  have f2 : w.frozen? ⟨b, 2, none⟩ = false := Lib.frozen_of_heap hbk0 2
  have HK0 := Lib.hid hK0; have HL := Lib.hid hl
  clear hbk0 hK0 hl
  go_enter Tryd.func40, Tryd.ntmps40
  go_wp2_with fail
  generalize w.setCell _ _ = W0 at HK0 HL ⊢
  clear c2 f2
  have HFIN : Hid (∀ W, Made b r bs 1 w W → ∃ (g : Nat) (x : Value), BufS W b (some g) (bs ++ [x]) ∧ Kp (fun k => k = b ∨ r = some k) w W ∧ (r = some g ∨ w.heap.size ≤ g)) := Lib.hid (fun W ⟨g, xs, q1, q2, q3, q4⟩ => by
    match xs, q1 with
    | [x], _ => exact ⟨g, x, q2, q3, q4⟩)
  obtain ⟨lr, v, hbk, hm⟩ := HL.out
  have HBK := Lib.hid hbk
  cases r with
  | none =>
    obtain ⟨rfl, rfl⟩ := hm
    have HT : Hid (Calls Tryd.prog 49 #[.pointer (some ⟨b, 0, none⟩), .int .i64 1] W0 fun e w' => e = .returned (.tuple #[.int .i64 0, .bool false]) ∧ w' = W0) := Lib.hid (tryGrow_none b 0 0 1 none W0 (by rw [Lib.cell_of_heap hbk]; rfl) (Nat.le_refl _) (by decide) (by decide))
    have HG : Hid (Calls Tryd.prog 45 #[.pointer (some ⟨b, 0, none⟩), .int .i64 1] W0 (GrownS b 0 1 [] W0)) := Lib.hid (grow_nil b 1 lr W0 hbk (Nat.le_refl _) (by decide))
    clear hbk
    with_reducible refine HT.out.mono ?_
    rintro e w' ⟨rfl, rfl⟩
    go_wp2_with fail
    with_reducible refine HG.out.mono ?_
    rintro e W1 hgr
    obtain ⟨rfl, hmade⟩ := made_grown hgr HK0.out
    obtain ⟨g, x, q2, q3, q4⟩ := HFIN.out W1 hmade
    obtain ⟨lr1, v1, hbk1, hgb, cap1, cur1, hv1, hg1, hlc1, hcm1, hcs1, htk1⟩ := id q2
    have hl1 : ([] ++ [x] : List Value).length = 0 + 1 := rfl
    rw [hl1] at hv1 hlc1 htk1
    subst hv1
    have d0 : W1.cell? ⟨b, 0, none⟩ = some (.slice (some ⟨g, 0, none⟩) (0 + 1) cap1) := by rw [Lib.cell_of_heap hbk1]; rfl
    have d1 : ∃ y, W1.cell? ⟨g, 0, none⟩ = some y := ⟨_, by rw [Lib.cell_of_heap hg1]; exact Array.getElem?_eq_getElem (by omega)⟩
    obtain ⟨y, d1⟩ := d1
    have e1 : W1.frozen? ⟨g, 0, none⟩ = false := Lib.frozen_of_heap hg1 _
    have HQ2 := Lib.hid q2; have HQ3 := Lib.hid q3; have HQ4 := Lib.hid q4
    unfold maxLen at hcm1
    clear q2 q3 q4 hbk1 hg1 htk1 hl1
    go_wp2
    go_ret
    exact ⟨rfl, g, store_fin _ HQ2.out, HQ3.out.setCell (p := ⟨g, _, none⟩) (HQ4.out.elim (fun h => .inl (.inr h)) .inr) _, HQ4.out⟩
  | some g0 =>
    obtain ⟨hgb0, cap, cur, rfl, hg0, hlc0, hcm0, hcs0, htk0⟩ := hm
    by_cases hroom : 1 ≤ cap - bs.length
    · have HT : Hid (Calls Tryd.prog 49 #[.pointer (some ⟨b, 0, none⟩), .int .i64 1] W0 fun e w' => e = .returned (.tuple #[.int .i64 bs.length, .bool true]) ∧ w' = W0.setCell ⟨b, 0, none⟩ (.slice (some ⟨g0, 0, none⟩) (bs.length + 1) cap)) := Lib.hid (tryGrow_room b g0 bs.length cap 1 lr W0 hbk hlc0 hcm0 hroom)
      have HMR := Lib.hid (made_room hbk hgb0 hg0 hcm0 hcs0 htk0 hroom hlc0 HK0.out)
      clear hbk hg0 htk0
      with_reducible refine HT.out.mono ?_
      rintro e W1 ⟨rfl, hW1⟩
      rw [← hW1] at HMR
      obtain ⟨g, x, q2, q3, q4⟩ := HFIN.out W1 HMR.out
      clear hW1 HMR HT HBK HL HK0
      obtain ⟨lr1, v1, hbk1, hgb, cap1, cur1, hv1, hg1, hlc1, hcm1, hcs1, htk1⟩ := id q2
      have hl1 : (bs ++ [x]).length = bs.length + 1 := by simp
      rw [hl1] at hv1 hlc1 htk1
      subst hv1
      have d0 : W1.cell? ⟨b, 0, none⟩ = some (.slice (some ⟨g, 0, none⟩) (bs.length + 1) cap1) := by rw [Lib.cell_of_heap hbk1]; rfl
      have d1 : ∃ y, W1.cell? ⟨g, bs.length, none⟩ = some y := ⟨_, by rw [Lib.cell_of_heap hg1]; exact Array.getElem?_eq_getElem (by omega)⟩
      obtain ⟨y, d1⟩ := d1
      have e1 : W1.frozen? ⟨g, bs.length, none⟩ = false := Lib.frozen_of_heap hg1 _
      have HQ2 := Lib.hid q2; have HQ3 := Lib.hid q3; have HQ4 := Lib.hid q4
      unfold maxLen at hcm1
      clear q2 q3 q4 hbk1 hg1 htk1 hl1
      go_wp2
      go_ret
      exact ⟨rfl, g, store_fin _ HQ2.out, HQ3.out.setCell (p := ⟨g, _, none⟩) (HQ4.out.elim (fun h => .inl (.inr h)) .inr) _, HQ4.out⟩
    · have HT : Hid (Calls Tryd.prog 49 #[.pointer (some ⟨b, 0, none⟩), .int .i64 1] W0 fun e w' => e = .returned (.tuple #[.int .i64 0, .bool false]) ∧ w' = W0) := Lib.hid (tryGrow_none b bs.length cap 1 _ W0 (by rw [Lib.cell_of_heap hbk]; rfl) hlc0 hcm0 (by omega))
      have HG : Hid (Calls Tryd.prog 45 #[.pointer (some ⟨b, 0, none⟩), .int .i64 1] W0 (GrownS b bs.length 1 bs W0)) := Lib.hid (grow_row b g0 bs.length cap 1 lr cur bs W0 hbk rfl hg0 hlc0 hcm0 hcs0 htk0 hgb0 h1 (Nat.le_refl _) (by omega) hlim)
      clear hbk hg0 htk0
      with_reducible refine HT.out.mono ?_
      rintro e w' ⟨rfl, rfl⟩
      go_wp2_with fail
      with_reducible refine HG.out.mono ?_
      rintro e W1 hgr
      obtain ⟨rfl, hmade⟩ := made_grown hgr HK0.out
      obtain ⟨g, x, q2, q3, q4⟩ := HFIN.out W1 hmade
      clear hgr hmade HT HG HBK HL HK0
      obtain ⟨lr1, v1, hbk1, hgb, cap1, cur1, hv1, hg1, hlc1, hcm1, hcs1, htk1⟩ := id q2
      have hl1 : (bs ++ [x]).length = bs.length + 1 := by simp
      rw [hl1] at hv1 hlc1 htk1
      subst hv1
      have d0 : W1.cell? ⟨b, 0, none⟩ = some (.slice (some ⟨g, 0, none⟩) (bs.length + 1) cap1) := by rw [Lib.cell_of_heap hbk1]; rfl
      have d1 : ∃ y, W1.cell? ⟨g, bs.length, none⟩ = some y := ⟨_, by rw [Lib.cell_of_heap hg1]; exact Array.getElem?_eq_getElem (by omega)⟩
      obtain ⟨y, d1⟩ := d1
      have e1 : W1.frozen? ⟨g, bs.length, none⟩ = false := Lib.frozen_of_heap hg1 _
      have HQ2 := Lib.hid q2; have HQ3 := Lib.hid q3; have HQ4 := Lib.hid q4
      unfold maxLen at hcm1
      clear q2 q3 q4 hbk1 hg1 htk1 hl1
      go_wp2
      go_ret
      exact ⟨rfl, g, store_fin _ HQ2.out, HQ3.out.setCell (p := ⟨g, _, none⟩) (HQ4.out.elim (fun h => .inl (.inr h)) .inr) _, HQ4.out⟩
theorem row_fin {W : World} {b g : Nat} {bs xs cs : List Value} {cur : Array Value} {T : TypeId} {m : Nat × Nat} (h : BufS W b (some g) (bs ++ xs)) (hg : W.heap[g]? = some (.cells cur T m)) (hl : xs.length = cs.length) :
    BufS (W.setRow g (cur.toList.take bs.length ++ cs ++ cur.toList.drop (bs.length + cs.length)).toArray) b (some g) (bs ++ cs) := by
  obtain ⟨lr, v, hbk, hgb, cap, cur2, hv, hg2, hlc, hcm, hcs, htk⟩ := h
  rw [hg] at hg2
  simp only [Option.some.injEq, Obj.cells.injEq] at hg2
  obtain ⟨rfl, rfl, rfl⟩ := hg2
  have h1 : (bs ++ xs).length = bs.length + cs.length := by rw [List.length_append, hl]
  have h2 : (bs ++ cs).length = bs.length + cs.length := List.length_append
  rw [h1] at hv hlc htk
  have hcl : cur.toList.length = cap := Array.length_toList.trans hcs
  have e1 : cur.toList.take bs.length = bs := by
    have h3 := congrArg (List.take bs.length) htk
    rwa [List.take_take, Nat.min_eq_left (Nat.le_add_right _ _), List.take_left' rfl] at h3
  refine ⟨lr, v, ?_, hgb, cap, _, by rw [h2]; exact hv, setRow_heap W g _ _ _ _ hg, by rw [h2]; exact hlc, hcm, ?_, ?_⟩
  · rw [setRow_other _ _ _ _ (Ne.symm hgb)]; exact hbk
  · simp only [List.size_toArray, List.length_append, e1, List.length_drop]; omega
  · rw [List.toList_toArray, e1, h2, List.take_append_of_le_length (by rw [h2]; exact Nat.le_refl _), List.take_of_length_le (by rw [h2]; exact Nat.le_refl _)]
theorem u8One : (Tryd.prog.info? 5).map (·.size) = some 1 := by kernel_rfl
set_option maxRecDepth 100000 in
set_option maxHeartbeats 4000000 in
theorem write_s (b : Nat) (r : Option Nat) (bs cs : List Value) (a : Addr) (n c : Nat) (w : World) (h : BufS w b r bs) (h1 : ∀ v ∈ bs, v.oneCell' = true) (hn : cs.length = n) (hn1 : 1 ≤ n) (hnil : r = none → n ≤ 64)
    (hab : a.block ≠ b) (har : r ≠ some a.block) (hsrc : ∀ j v, cs[j]? = some v → w.cell? (a.add j) = some v) (h1c : ∀ v ∈ cs, v.oneCell' = true) (hlim : bs.length + n ≤ 1000000) :
    Calls Tryd.prog 35 #[.pointer (some ⟨b, 0, none⟩), .slice (some a) n c] w (WrS b r (bs ++ cs) (.tuple #[.int .i64 n, .nilIface]) w) := by
  have hinfo := u8One
  have HSRC := Lib.hid hsrc
  have hl := h.last
  have hK0 : Kp (fun k => k = b ∨ r = some k) w (w.setCell ⟨b, 2, none⟩ (.int .i8 0)) := (Kp.refl _ _).setCell (p := ⟨b, 2, none⟩) (.inl (.inl rfl)) _
  obtain ⟨lr0, v0, hbk0, -⟩ := h
  have c2 : w.cell? ⟨b, 2, none⟩ = some (.int .i8 lr0) := by rw [Lib.cell_of_heap hbk0]; rfl
  have f2 : w.frozen? ⟨b, 2, none⟩ = false := Lib.frozen_of_heap hbk0 2
  have HK0 := Lib.hid hK0; have HL := Lib.hid hl
  clear hbk0 hK0 hl hsrc
  go_enter Tryd.func35, Tryd.ntmps35
  go_wp2_with fail
  generalize w.setCell _ _ = W0 at HK0 HL ⊢
  clear c2 f2
  obtain ⟨lr, v, hbk, hm⟩ := HL.out
  have HBK := Lib.hid hbk
  cases r with
  | none =>
    obtain ⟨rfl, rfl⟩ := hm
    have HT := Lib.hid (tryGrow_none b 0 0 n none W0 (by rw [Lib.cell_of_heap hbk]; rfl) (Nat.le_refl _) (by decide) (by omega))
    have HG := Lib.hid (grow_nil b n lr W0 hbk hn1 (hnil rfl))
    clear hbk
    with_reducible refine HT.out.mono ?_
    rintro e w' ⟨rfl, rfl⟩
    go_wp2_with fail
    with_reducible refine HG.out.mono ?_
    rintro e W1 hgr
    obtain ⟨rfl, g, xs, q1, q2, q3, q4⟩ := made_grown hgr HK0.out
    clear hgr HT HG HBK HL HK0
    obtain ⟨lr1, v1, hbk1, hgb, cap1, cur1, hv1, hg1, hlc1, hcm1, hcs1, htk1⟩ := id q2
    have hl1 : (([] : List Value) ++ xs).length = 0 + n := by rw [List.length_append, q1]; rfl
    rw [hl1] at hv1 hlc1 htk1
    subst hv1
    have d0 : W1.cell? ⟨b, 0, none⟩ = some (.slice (some ⟨g, 0, none⟩) (0 + n) cap1) := by rw [Lib.cell_of_heap hbk1]; rfl
    have hsrc1 : ∀ j v, cs[j]? = some v → W1.cell? (a.add j) = some v := fun j v hj => by
      have h2 := HSRC.out j v hj
      have hb2 : (a.add j).block = a.block := Lib.block_add a j
      have h3 : (a.add j).block < w.heap.size := block_lt_of_cell h2
      have h4 := q3.block (a.add j).block h3 (by rw [hb2]; rintro (h | h); exact hab h; exact har h)
      unfold World.cell? at h2 ⊢
      rw [h4]; exact h2
    have hcp := run_copy_row (P := Tryd.prog) W1 38 38 3 5 g 0 n (cap1 - 0) a n c cur1 5 cs bytesKind hinfo hg1 (by rw [hn]; exact (Nat.min_self n).symm) hsrc1 (by rw [hn]; omega) h1c
    rw [hn, Nat.sub_zero, Nat.zero_add] at hcp
    rw [Nat.zero_add] at d0
    have HQ2 := Lib.hid q2; have HQ3 := Lib.hid q3; have HQ4 := Lib.hid q4; have HG1 := Lib.hid hg1; have HTK := Lib.hid htk1; have HL1 := Lib.hid hl1
    have hcm2 := hcm1
    unfold maxLen at hcm2
    have hcap0 : ¬ cap1 = 0 := by omega
    clear q2 q3 q4 hbk1 hg1 htk1 hl1 hsrc1
    go_wp2
    go_ret2
    refine ⟨rfl, g, ?_, HQ3.out.setRow (HQ4.out.elim (fun h => .inl (.inr h)) .inr) _, HQ4.out⟩
    have hrf := row_fin HQ2.out HG1.out (q1.trans hn.symm)
    rw [hn, List.append_assoc] at hrf
    simpa using hrf
  | some g0 =>
    obtain ⟨hgb0, cap, cur, rfl, hg0, hlc0, hcm0, hcs0, htk0⟩ := hm
    by_cases hroom : n ≤ cap - bs.length
    · have HT := Lib.hid (tryGrow_room b g0 bs.length cap n lr W0 hbk hlc0 hcm0 hroom)
      have HMR := Lib.hid (made_room hbk hgb0 hg0 hcm0 hcs0 htk0 hroom hlc0 HK0.out)
      clear hbk hg0 htk0
      with_reducible refine HT.out.mono ?_
      rintro e W1 ⟨rfl, hW1⟩
      rw [← hW1] at HMR
      obtain ⟨g, xs, q1, q2, q3, q4⟩ := HMR.out
      clear hW1 HMR HT HBK HL HK0
      obtain ⟨lr1, v1, hbk1, hgb, cap1, cur1, hv1, hg1, hlc1, hcm1, hcs1, htk1⟩ := id q2
      have hl1 : (bs ++ xs).length = bs.length + n := by rw [List.length_append, q1]
      rw [hl1] at hv1 hlc1 htk1
      subst hv1
      have d0 : W1.cell? ⟨b, 0, none⟩ = some (.slice (some ⟨g, 0, none⟩) (bs.length + n) cap1) := by rw [Lib.cell_of_heap hbk1]; rfl
      have hsrc1 : ∀ j v, cs[j]? = some v → W1.cell? (a.add j) = some v := fun j v hj => by
        have h2 := HSRC.out j v hj
        have hb2 : (a.add j).block = a.block := Lib.block_add a j
        have h3 : (a.add j).block < w.heap.size := block_lt_of_cell h2
        have h4 := q3.block (a.add j).block h3 (by rw [hb2]; rintro (h | h); exact hab h; exact har h)
        unfold World.cell? at h2 ⊢
        rw [h4]; exact h2
      have hcp := run_copy_row (P := Tryd.prog) W1 38 38 3 5 g bs.length n (cap1 - bs.length) a n c cur1 5 cs bytesKind hinfo hg1 (by rw [hn]; exact (Nat.min_self n).symm) hsrc1 (by rw [hn]; omega) h1c
      rw [hn] at hcp
      have HQ2 := Lib.hid q2; have HQ3 := Lib.hid q3; have HQ4 := Lib.hid q4; have HG1 := Lib.hid hg1; have HTK := Lib.hid htk1; have HL1 := Lib.hid hl1
      have hcm2 := hcm1
      unfold maxLen at hcm2
      have hcap0 : ¬ cap1 = bs.length := by omega
      clear q2 q3 q4 hbk1 hg1 htk1 hl1 hsrc1
      go_wp2
      go_ret2
      refine ⟨rfl, g, ?_, HQ3.out.setRow (HQ4.out.elim (fun h => .inl (.inr h)) .inr) _, HQ4.out⟩
      have hrf := row_fin HQ2.out HG1.out (q1.trans hn.symm)
      rw [hn, List.append_assoc] at hrf
      exact hrf
    · have HT := Lib.hid (tryGrow_none b bs.length cap n _ W0 (by rw [Lib.cell_of_heap hbk]; rfl) hlc0 hcm0 (by omega))
      have HG := Lib.hid (grow_row b g0 bs.length cap n lr cur bs W0 hbk rfl hg0 hlc0 hcm0 hcs0 htk0 hgb0 h1 hn1 (by omega) hlim)
      clear hbk hg0 htk0
      with_reducible refine HT.out.mono ?_
      rintro e w' ⟨rfl, rfl⟩
      go_wp2_with fail
      with_reducible refine HG.out.mono ?_
      rintro e W1 hgr
      obtain ⟨rfl, g, xs, q1, q2, q3, q4⟩ := made_grown hgr HK0.out
      clear hgr HT HG HBK HL HK0
      obtain ⟨lr1, v1, hbk1, hgb, cap1, cur1, hv1, hg1, hlc1, hcm1, hcs1, htk1⟩ := id q2
      have hl1 : (bs ++ xs).length = bs.length + n := by rw [List.length_append, q1]
      rw [hl1] at hv1 hlc1 htk1
      subst hv1
      have d0 : W1.cell? ⟨b, 0, none⟩ = some (.slice (some ⟨g, 0, none⟩) (bs.length + n) cap1) := by rw [Lib.cell_of_heap hbk1]; rfl
      have hsrc1 : ∀ j v, cs[j]? = some v → W1.cell? (a.add j) = some v := fun j v hj => by
        have h2 := HSRC.out j v hj
        have hb2 : (a.add j).block = a.block := Lib.block_add a j
        have h3 : (a.add j).block < w.heap.size := block_lt_of_cell h2
        have h4 := q3.block (a.add j).block h3 (by rw [hb2]; rintro (h | h); exact hab h; exact har h)
        unfold World.cell? at h2 ⊢
        rw [h4]; exact h2
      have hcp := run_copy_row (P := Tryd.prog) W1 38 38 3 5 g bs.length n (cap1 - bs.length) a n c cur1 5 cs bytesKind hinfo hg1 (by rw [hn]; exact (Nat.min_self n).symm) hsrc1 (by rw [hn]; omega) h1c
      rw [hn] at hcp
      have HQ2 := Lib.hid q2; have HQ3 := Lib.hid q3; have HQ4 := Lib.hid q4; have HG1 := Lib.hid hg1; have HTK := Lib.hid htk1; have HL1 := Lib.hid hl1
      have hcm2 := hcm1
      unfold maxLen at hcm2
      have hcap0 : ¬ cap1 = bs.length := by omega
      clear q2 q3 q4 hbk1 hg1 htk1 hl1 hsrc1
      go_wp2
      go_ret2
      refine ⟨rfl, g, ?_, HQ3.out.setRow (HQ4.out.elim (fun h => .inl (.inr h)) .inr) _, HQ4.out⟩
      have hrf := row_fin HQ2.out HG1.out (q1.trans hn.symm)
      rw [hn, List.append_assoc] at hrf
      exact hrf
set_option maxHeartbeats 1000000 in
theorem reset_s (b : Nat) (r : Option Nat) (bs : List Value) (w : World) (h : BufS w b r bs) :
    Calls Tryd.prog 56 #[.pointer (some ⟨b, 0, none⟩)] w fun e w' => e = .returned (.tuple #[]) ∧ BufS w' b r [] ∧ Kp (fun k => k = b) w w' := by
  obtain ⟨lr, v, hbk, hm⟩ := h
  have f0 : w.frozen? ⟨b, 0, none⟩ = false := Lib.frozen_of_heap hbk 0
  have f1 : w.frozen? ⟨b, 1, none⟩ = false := Lib.frozen_of_heap hbk 1
  have f2 : w.frozen? ⟨b, 2, none⟩ = false := Lib.frozen_of_heap hbk 2
  have c0 : w.cell? ⟨b, 0, none⟩ = some v := by rw [Lib.cell_of_heap hbk]; rfl
  have c1 : w.cell? ⟨b, 1, none⟩ = some (.int .i64 0) := by rw [Lib.cell_of_heap hbk]; rfl
  have c2 : w.cell? ⟨b, 2, none⟩ = some (.int .i8 lr) := by rw [Lib.cell_of_heap hbk]; rfl
  have HBK := Lib.hid hbk
  have HK : Hid (∀ v1, Kp (fun k => k = b) w (((w.setCell ⟨b, 0, none⟩ v1).setCell ⟨b, 1, none⟩ (.int .i64 0)).setCell ⟨b, 2, none⟩ (.int .i8 0))) := Lib.hid (fun v1 => (((Kp.refl (fun k => k = b) w).setCell (p := ⟨b, 0, none⟩) (.inl rfl) _).setCell (p := ⟨b, 1, none⟩) (.inl rfl) _).setCell (p := ⟨b, 2, none⟩) (.inl rfl) _)
  clear hbk
  cases r with
  | none =>
    obtain ⟨rfl, rfl⟩ := hm
    go_enter Tryd.func56, Tryd.ntmps56
    go_wp2
    go_returns
    exact ⟨rfl, ⟨0, _, heap_setCell_same (heap_setCell_same (heap_setCell_same HBK.out _) _) _, rfl, rfl⟩, HK.out _⟩
  | some g =>
    obtain ⟨hgb, cap, cur, rfl, hg, hlc, hcm, hcs, htk⟩ := hm
    have HG := Lib.hid hg
    clear hg htk
    go_enter Tryd.func56, Tryd.ntmps56
    go_wp2
    go_returns
    refine ⟨rfl, ⟨0, _, heap_setCell_same (heap_setCell_same (heap_setCell_same HBK.out _) _) _, hgb, cap, cur, rfl, ?_, Nat.zero_le _, hcm, hcs, rfl⟩, HK.out _⟩
    rw [heap_setCell_other (by exact fun e => hgb e.symm), heap_setCell_other (by exact fun e => hgb e.symm), heap_setCell_other (by exact fun e => hgb e.symm)]
    exact HG.out
end Go.Proofs.YtgibmkgibkhemaaDoor
