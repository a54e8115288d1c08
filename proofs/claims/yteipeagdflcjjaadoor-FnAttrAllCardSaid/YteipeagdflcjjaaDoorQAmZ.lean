/- spec.LineSorted: different names in their order. -/
import Derived.Test.YteipeagdflcjjaaDoorQAmT
namespace Go.Proofs.YteipeagdflcjjaaDoor.Am
open Go.RowKit
set_option linter.unusedSimpArgs false
set_option linter.unusedVariables false

theorem grown_refl (w : World) (r : Option Nat) : w.grownBy w r := ⟨rfl, rfl, rfl, Nat.le_refl _, fun _ _ _ => rfl⟩
theorem own_app {w : World} {B : Nat} {v : Value} {L : List ByteArray} {A : Option Addr} {m c : Nat} {f : Nat → ByteArray} (ty : TypeId) (h : Own w B v L) (hs : Strs w A m f) (hz : L.length + m ≤ 1000) (hB : B ≤ w.heap.size) :
    ∃ v' w', (Builtin.append_ #[23, 23] ty #[v, .slice A m c]).run Tryd.prog w = .ok v' w' ∧ Own w' B v' (L ++ pathL f m) ∧ w.grownBy w' v.ownBlock := by
  obtain ⟨i0, hi, hz0, hz1, hz2⟩ := info_parts strInfo
  cases A with
  | none =>
    have h0 : m = 0 := by
      cases m with
      | zero => rfl
      | succ m => obtain ⟨b, o, e, _⟩ := hs.at 0 (by omega); cases e
    subst h0
    refine ⟨v, w, ?_, by simpa [pathL] using h, grown_refl _ _⟩
    rcases h.2 with ⟨rfl, _⟩ | ⟨g, cap, cur, rfl, _, _, hc, _⟩
    · simp [Builtin.append_, run_underlying strsKind, run_underlying strKind, sizeOf, typeInfo, hi, Builtin.lenOf, Builtin.firstCells, loadCells, loadCellsFrom]
    · simp [Builtin.append_, run_underlying strsKind, run_underlying strKind, sizeOf, typeInfo, hi, Builtin.lenOf, Builtin.firstCells, loadCells, loadCellsFrom, hc, storeCells]
  | some a =>
    have hnews : ∀ j u, ((pathL f m).map Value.string)[j]? = some u → w.cell? (a.add j) = some u := by
      by_cases h0 : m = 0
      · subst h0; intro j u hu; simp [pathL] at hu
      · obtain ⟨b, o, e, _⟩ := hs.at 0 (by omega)
        injection e with e
        subst e
        exact path_news hs
    obtain ⟨v', w', hr, hown, hg, _⟩ := run_append_own (P := Tryd.prog) w B 23 ty 9 i0 (.string ⟨#[]⟩) 1 16 strsKind hi hz0 hz1 hz2 rfl (by decide) v L.length (L.map Value.string) h a m c ((pathL f m).map Value.string)
      (by rw [List.length_map, pathL_length, Nat.mul_one]) hnews (path_one _) (by unfold maxLen; omega) (by omega) hB
    refine ⟨v', w', hr, ?_, hg⟩
    unfold Own
    rw [List.map_append, List.length_append, pathL_length]
    exact hown
/-- A list that is full grows, whatever block it lies in. -/
theorem cut_app {w : World} {B : Nat} {A : Option Addr} {a b c : Nat} {f : Nat → ByteArray} {s : ByteArray} (ty : TypeId) (hs : Strs w A a f) (hb : Strs w (some ⟨b, 0, none⟩) 1 (fun _ => s)) (hA : ∀ x, A = some x → ∃ g, x = ⟨g, 0, none⟩) (ha : a ≤ 900) (hB : B ≤ w.heap.size) :
    ∃ v' w', (Builtin.append_ #[23, 23] ty #[.slice A a a, .slice (some ⟨b, 0, none⟩) 1 c]).run Tryd.prog w = .ok v' w' ∧ Own w' B v' (pathL f a ++ [s]) ∧ w.grownBy w' none := by
  obtain ⟨i0, hi, hz0, hz1, hz2⟩ := info_parts strInfo
  cases A with
  | none =>
    have h0 : a = 0 := by
      cases a with
      | zero => rfl
      | succ m => obtain ⟨b, o, e, _⟩ := hs.at 0 (by omega); cases e
    subst h0
    obtain ⟨v', w', h1, h2, h3⟩ := own_app (c := c) ty (Own.nil w B) hb (by simp) hB
    exact ⟨v', w', h1, h2, h3⟩
  | some x =>
    obtain ⟨g, rfl⟩ := hA x rfl
    have hr := run_append_grow (P := Tryd.prog) w 23 ty 9 i0 (.string ⟨#[]⟩) strsKind hi hz0 ⟨g, 0, none⟩ a a ((pathL f a).map Value.string) (by rw [List.length_map, pathL_length, hz1, Nat.mul_one]) (path_news hs)
      ⟨b, 0, none⟩ 1 c ((pathL (fun _ => s) 1).map Value.string) (by rw [List.length_map, pathL_length, hz1]) (path_news hb) (by omega) (by omega) (growslice_fits (by omega) (by rw [hz2]; omega))
    refine ⟨_, _, hr, ?_, ⟨rfl, rfl, rfl, by simp, fun k hk _ => Below.heap_alloc _ _ _ hk⟩⟩
    have hge := grownCap_ge w (a + 1) a 9
    have hcm : grownCap w (a + 1) a 9 ≤ maxLen := grownCap_le_maxLen w (a + 1) a 9 (by unfold maxLen; omega)
    have hl : ((pathL f a).map Value.string).length = a := by rw [List.length_map, pathL_length]
    have hmap : (pathL f a ++ [s]).map Value.string = (pathL f a).map Value.string ++ (pathL (fun _ => s) 1).map Value.string := by rw [List.map_append]; rfl
    have hlen : (pathL f a ++ [s]).length = a + 1 := by rw [List.length_append, pathL_length]; rfl
    unfold Own
    rw [hlen, hmap]
    refine ⟨by rw [List.length_append, hl, List.length_map, pathL_length]; omega, .inr ⟨w.heap.size, _, _, rfl, hB, heap_alloc_new w.drew _, hge, hcm, ?_, ?_⟩⟩
    · simp only [Array.size_append, List.size_toArray, size_zeroCells, hl]
      show a + 1 + (grownCap w (a + 1) a 9 - (a + 1)) * 1 = _
      omega
    · simp only [Array.toList_append]
      have h2 : ((pathL f a).map Value.string ++ (pathL (fun _ => s) 1).map Value.string).length = (a + 1) * 1 := by rw [List.length_append, hl, List.length_map, pathL_length]; omega
      rw [← h2]
      exact List.take_left
theorem wp_app_run (w : World) {o : Oper} {a : Act} {K : Act → World → Prop} {Q : Exit → Act → World → Prop} (s x : Operand)
    (ho : o.op = .call { callee := .builtin .append, args := #[s, x], argTypes := #[23, 23] }) (vs vx : Value) (hs : a.eval s = vs) (hx : a.eval x = vx) (v' : Value) (w' : World)
    (hr : (Builtin.append_ #[23, 23] o.type #[vs, vx]).run Tryd.prog w = .ok v' w') (h : K (a.put o.dst v') w') : o.wp Tryd.prog a w K Q := by
  unfold Oper.wp execOp
  simp only [ho, resolve, invoke, builtin, Sem.run_bind, Sem.run_pure, Result.andThen_ok, List.map_toArray, List.map_cons, List.map_nil, hs, hx, hr]
  exact h
theorem wpList_app_run (w : World) {ops : Array Oper} {rest : List Oper} {o : Oper} {a : Act} {Q : Exit → Act → World → Prop} (hgd : o.guard = none) (s x : Operand)
    (ho : o.op = .call { callee := .builtin .append, args := #[s, x], argTypes := #[23, 23] }) (vs vx : Value) (hs : a.eval s = vs) (hx : a.eval x = vx) (v' : Value) (w' : World)
    (hr : (Builtin.append_ #[23, 23] o.type #[vs, vx]).run Tryd.prog w = .ok v' w') (h : wpList Tryd.prog ops Q rest (a.put o.dst v') w') : wpList Tryd.prog ops Q (o :: rest) a w :=
  wpList_plain hgd fun _ hK => wp_app_run w s x ho vs vx hs hx v' w' hr (hK _ _ h)

def SortPost (n : Nat) (f : Nat → ByteArray) (w : World) (e : Ending) (w' : World) : Prop :=
  ∃ v L, e = .returned v ∧ Own w' w.heap.size v L ∧ SortedBy (fun s : ByteArray => s) L ∧ L.length = n ∧ (∀ s, s ∈ L ↔ ∃ j, j < n ∧ f j = s) ∧ Below w.heap.size w w'

theorem pathL_take (L : List ByteArray) (a : Nat) (h : a ≤ L.length) : pathL (fun i => L.getD i ⟨#[]⟩) a = L.take a := by
  refine List.ext_getElem? fun i => ?_
  by_cases hi : i < a
  · rw [pathL_at _ _ _ hi, List.getElem?_take_of_lt hi, List.getD_eq_getElem?_getD, List.getElem?_eq_getElem (by omega)]; rfl
  · rw [List.getElem?_eq_none (by rw [pathL_len]; omega), List.getElem?_eq_none (by rw [List.length_take]; omega)]
theorem pathL_dropL (L : List ByteArray) (a : Nat) : pathL (fun i => L.getD (a + i) ⟨#[]⟩) (L.length - a) = L.drop a := by
  refine List.ext_getElem? fun i => ?_
  by_cases hi : i < L.length - a
  · rw [pathL_at _ _ _ hi, List.getElem?_drop, List.getD_eq_getElem?_getD, List.getElem?_eq_getElem (by omega)]; rfl
  · rw [List.getElem?_eq_none (by rw [pathL_len]; omega), List.getElem?_eq_none (by rw [List.length_drop]; omega)]

set_option maxRecDepth 100000 in
set_option maxHeartbeats 4000000 in
theorem lineSorted_any (A : Option Addr) (n c : Nat) (f : Nat → ByteArray) (w : World) (hn : n ≤ 100) (hA : Strs w A n f) (hd : ∀ i j, i < n → j < n → i ≠ j → f i ≠ f j) :
    Calls Tryd.prog 28 #[.slice A n c] w (SortPost n f w) := by
  have H := Lib.hid hA; have HD := Lib.hid hd
  clear hA hd
  go_enter Tryd.func28, Tryd.ntmps28
  go_wp2
  go_loopw [3, 10] (fun v iv wr => ∃ (k : Nat) (L : List ByteArray), k ≤ n ∧ iv = .int .i64 (k : Nat) ∧ Own wr w.heap.size v L ∧ SortedBy (fun s : ByteArray => s) L ∧ L.length = k ∧ (∀ s, s ∈ L ↔ ∃ j, j < k ∧ f j = s) ∧ Below w.heap.size w wr) (fun _ iv _ => n - (intOf iv).toNat)
  case atStart => exact ⟨0, [], Nat.zero_le _, rfl, Own.nil _ _, List.Pairwise.nil, rfl, fun s => ⟨fun h => (by cases h), fun ⟨j, h, _⟩ => absurd h (Nat.not_lt_zero _)⟩, Below.refl _ _⟩
  case round =>
    obtain ⟨k, L, hk, rfl, hown, hsrt, hlen, hmem, hb⟩ := hrel
    have HOWN := Lib.hid hown; have HSRT := Lib.hid hsrt; have HLEN := Lib.hid hlen; have HMEM := Lib.hid hmem; have HB := Lib.hid hb
    clear hown hsrt hlen hmem hb
    by_cases hlt : k < n
    · obtain ⟨b0, o0, rfl, _, hc0⟩ := (H.out.below HB.out).at k hlt
      generalize hfk : f k = s at hc0
      have HFK := Lib.hid hfk; clear hfk
      have HNEW : Hid (∀ x ∈ L, x ≠ s) := Lib.hid fun x hx e => by
        obtain ⟨j, hj, e2⟩ := (HMEM.out x).mp hx
        exact HD.out j k (by omega) hlt (by omega) (by rw [e2, e, HFK.out])
      have hform : ∃ A3 c3, u3 = .slice A3 k c3 ∧ k ≤ c3 ∧ Strs wr A3 k (fun i => L.getD i ⟨#[]⟩) ∧ (∀ x, A3 = some x → ∃ g, x = ⟨g, 0, none⟩) ∧ (A3 = none → k = 0 ∧ c3 = 0) ∧ c3 ≤ maxLen := by
        obtain ⟨A3, c3, e, _, hs3⟩ := HOWN.out.strs
        rw [HLEN.out] at e hs3
        rcases HOWN.out.2 with ⟨h1, h2⟩ | ⟨g, cap, cur, h1, _, _, h2, h3, _⟩
        · rw [h1] at e
          injection e with e1 e2 e3
          subst e1; subst e3
          exact ⟨none, 0, by rw [h1, ← HLEN.out, h2], by omega, hs3, fun x hx => (by cases hx), fun _ => ⟨by omega, rfl⟩, by omega⟩
        · rw [h1] at e
          injection e with e1 e2 e3
          subst e1; subst e3
          exact ⟨_, cap, by rw [h1, HLEN.out], by rw [← HLEN.out]; exact h2, hs3, fun x hx => (by injection hx with hx; exact ⟨g, hx.symm⟩), fun hx => (by cases hx), h3⟩
      obtain ⟨A3, c3, rfl, hkc, hs3, hA3, hA3n, hc3m⟩ := hform
      have HS3 := Lib.hid hs3; have HA3 := Lib.hid hA3; have HA3N := Lib.hid hA3n; have HC3M := Lib.hid hc3m; have HKC := Lib.hid hkc
      clear hs3 hA3 hA3n hc3m hkc
      go_upto_region 5 with (fail)
      go_wp2
      clear hc0
      go_loop [6] (fun iv => ∃ a : Nat, a ≤ k ∧ iv = .int .i64 (a : Nat) ∧ ∀ x ∈ L.take a, ltS x s = true) (fun iv => k - (intOf iv).toNat)
      case atStart => exact ⟨0, Nat.zero_le _, rfl, fun x hx => (by simp at hx)⟩
      case round =>
        obtain ⟨a, ha, rfl, hall⟩ := hrel
        have HALL := Lib.hid hall; clear hall
        obtain ⟨B, hB⟩ : ∃ B, (decide (a < k) && ltS (L.getD a ⟨#[]⟩) s) = B := ⟨_, rfl⟩
        cases B with
        | true =>
          rw [Bool.and_eq_true] at hB
          have hak := of_decide_eq_true hB.1
          have HNX : Hid (∀ x ∈ L.take (a + 1), ltS x s = true) := Lib.hid fun x hx => by
            rw [List.take_add_one] at hx
            rcases List.mem_append.mp hx with h | h
            · exact HALL.out x h
            · rw [List.getElem?_eq_getElem (by rw [HLEN.out]; exact hak)] at h
              have h : x = L[a]'(by rw [HLEN.out]; exact hak) := by simpa using h
              have h2 := hB.2
              rw [List.getD_eq_getElem?_getD, List.getElem?_eq_getElem (by rw [HLEN.out]; exact hak)] at h2
              rw [h]; exact h2
          obtain ⟨b3, o3, rfl, _, hc3⟩ := HS3.out.at a hak
          have hakI : (a : Int) < k := by omega
          have hq : Op.bytesLess (L.getD a ⟨#[]⟩).toList s.toList = true := hB.2
          generalize L.getD a ⟨#[]⟩ = y at hq hc3
          clear hB
          go_wp2
          go_round
          case rel => exact ⟨a + 1, by omega, by go_num, HNX.out⟩
          case measure => simp [intOf]; omega
        | false =>
          have HGT : Hid (∀ x ∈ L.drop a, ltS s x = true) := Lib.hid (drop_gt (f := fun s : ByteArray => s) ⟨#[]⟩ fun r h1 h2 => by
            rw [Bool.and_eq_false_iff] at hB
            rw [HLEN.out] at h2
            have hma : L.getD a ⟨#[]⟩ ∈ L := by rw [List.getD_eq_getElem?_getD, List.getElem?_eq_getElem (by rw [HLEN.out]; omega)]; exact List.getElem_mem _
            rcases hB with hB | hB
            · have := of_decide_eq_false hB; omega
            · have h3 := ltS_total hB (HNEW.out _ hma)
              by_cases e : r = a
              · subst e; exact h3
              · refine ltS_trans h3 ?_
                have h4 := List.pairwise_iff_getElem.mp HSRT.out a r (by rw [HLEN.out]; omega) (by rw [HLEN.out]; omega) (by omega)
                rw [List.getD_eq_getElem?_getD, List.getElem?_eq_getElem (by rw [HLEN.out]; omega), List.getD_eq_getElem?_getD, List.getElem?_eq_getElem (by rw [HLEN.out]; omega)]
                exact h4)
          by_cases hak : a < k
          · obtain ⟨b3, o3, hA3e, _, hc3⟩ := HS3.out.at a hak
            have hq1 : Op.bytesLess (L.getD a ⟨#[]⟩).toList s.toList = false := by
              rw [decide_eq_true hak] at hB; exact hB
            have hq : ((L.getD a ⟨#[]⟩).toList == s.toList) = false := by
              rw [beq_eq_false_iff_ne]
              intro e
              refine HNEW.out _ ?_ (toList_inj e)
              rw [List.getD_eq_getElem?_getD, List.getElem?_eq_getElem (by rw [HLEN.out]; exact hak)]; exact List.getElem_mem _
            have hakI : (a : Int) < k := by omega
            subst hA3e
            generalize L.getD a ⟨#[]⟩ = y at hq1 hq hc3
            clear hB
            go_upto_region 9 with (fail)
            clear hc3 hq hq1
            have hac : ¬ c3 = a := by have := HKC.out; omega
            have hkc2 : (k : Int) ≤ c3 := by have := HKC.out; omega
            have hak2 : (a : Int) ≤ k := by omega
            have HS9 : Hid (Strs (wr.alloc (.cells #[] 9)) (some ⟨b3, o3 + a, none⟩) (k - a) (fun i => L.getD (a + i) ⟨#[]⟩)) := Lib.hid (fun i hi => by
                obtain ⟨b, off, e, h1, h2⟩ := HS3.out (a + i) (by omega)
                injection e with e
                injection e with e1 e2
                subst e1; subst e2
                exact ⟨_, _, rfl, by rw [heap_new_size]; omega, (World.cell?_of_block (a := ⟨_, _, none⟩) (Below.heap_alloc _ _ _ h1)).trans (by rw [Nat.add_assoc]; exact h2)⟩)
            obtain ⟨v7, w7, hr7, hown7, hg7⟩ := own_app (w := wr.alloc (.cells #[] 9)) (B := w.heap.size) (c := c3 - a) 23 (v := .slice (some ⟨wr.heap.size, 0, none⟩) 0 0) (L := []) (World.ownsRow_made wr #[] 0 HB.out.size (Nat.zero_le _) rfl) HS9.out (by have := ha; first | (simp; done) | (simp; omega)) (by rw [heap_new_size]; have := HB.out.size; omega)
            have hg7' : ∀ q, q < wr.heap.size → w7.heap[q]? = wr.heap[q]? := fun q hq => (hg7.block q (by rw [heap_new_size]; omega) (fun e => by simp only [Value.ownBlock, Option.some.injEq] at e; omega)).trans (Below.heap_alloc _ _ _ hq)
            have HB7 : Hid (Below w.heap.size w w7) := Lib.hid ((HB.out.alloc HB.out.size _).grown hg7 (by rw [heap_new_size]; have := HB.out.size; omega) (fun q e => by simp only [Value.ownBlock, Option.some.injEq] at e; have := HB.out.size; omega))
            obtain ⟨A7, c7, e7, _, hs7⟩ := hown7.strs
            have hl7 : ([] ++ pathL (fun i => L.getD (a + i) ⟨#[]⟩) (k - a)).length = k - a := by rw [List.nil_append, pathL_length]
            rw [hl7] at e7 hs7
            subst e7
            have hs3' : Strs w7 (some ⟨b3, o3, none⟩) a (fun i => L.getD i ⟨#[]⟩) := fun i hi => by
              obtain ⟨b, off, e, h1, h2⟩ := HS3.out i (by omega)
              exact ⟨b, off, e, Nat.lt_of_lt_of_le h1 (Nat.le_trans (by rw [heap_new_size]; omega) hg7.size), (World.cell?_of_block (hg7' b h1)).trans h2⟩
            obtain ⟨v8, w8, hr8, hown8, hg8⟩ := cut_app (w := w7.alloc (.cells #[.string s] 9)) (B := w.heap.size) (c := 1) 23 (hs3'.below ((Below.refl _ _).alloc (Nat.le_refl _) _)) (strs_one w7 s) HA3.out (by omega) (by rw [heap_new_size]; have := HB7.out.size; omega)
            have HB8 : Hid (Below w.heap.size w w8) := Lib.hid ((HB7.out.alloc HB7.out.size _).grown hg8 (by rw [heap_new_size]; have := HB7.out.size; omega) (fun q e => by cases e))
            have hs7' : Strs w8 A7 (k - a) _ := fun i hi => by
              obtain ⟨b, off, e, h1, h2⟩ := hs7 i hi
              exact ⟨b, off, e, Nat.lt_of_lt_of_le h1 (Nat.le_trans (by rw [heap_new_size]; omega) hg8.size), (World.cell?_of_block ((hg8.block b (by rw [heap_new_size]; omega) (fun e => by cases e)).trans (Below.heap_alloc _ _ _ h1))).trans h2⟩
            obtain ⟨v9, w9, hr9, hown9, hg9⟩ := own_app (w := w8) (B := w.heap.size) (c := c7) 23 hown8 hs7' (by rw [List.length_append, pathL_length]; first | (simp; done) | (simp; omega)) HB8.out.size
            have HB9 : Hid (Below w.heap.size w w9) := Lib.hid (HB8.out.grown hg9 HB8.out.size (fun q e => (hown8.lt q e).1))
            have hL : pathL (fun i => L.getD i ⟨#[]⟩) a ++ [s] ++ pathL (fun i => ([] ++ pathL (fun i => L.getD (a + i) ⟨#[]⟩) (k - a)).getD i ⟨#[]⟩) (k - a) = L.take a ++ s :: L.drop a := by
              have h1 := pathL_take L a (by rw [HLEN.out]; exact ha)
              have h2 := pathL_dropL L a
              rw [HLEN.out] at h2
              have h3 : pathL (fun i => ([] ++ pathL (fun i => L.getD (a + i) ⟨#[]⟩) (k - a)).getD i ⟨#[]⟩) (k - a) = ([] ++ pathL (fun i => L.getD (a + i) ⟨#[]⟩) (k - a)) := by rw [pathL_take _ _ (by rw [hl7]; exact Nat.le_refl _), List.take_of_length_le (by rw [hl7]; exact Nat.le_refl _)]
              rw [h1, h3, List.nil_append, h2]
              simp
            rw [hL] at hown9
            have HOWN9 := Lib.hid hown9
            clear hown9 hL hs7' hown8 hs3' hl7 hs7 hown7 hg7' hg7 hg8 hg9
            go_wp2_with (first | (at_builtin; refine wpList_app_run _ rfl (.tmp 40) (.tmp 43) rfl _ _ ?x1 ?x2 _ _ hr7 ?_; (case x1 => rfl); (case x2 => rfl)) | (at_builtin; refine wpList_app_run _ rfl (.tmp 48) (.tmp 50) rfl _ _ ?x1 ?x2 _ _ hr8 ?_; (case x1 => rfl); (case x2 => rfl)) | (at_builtin; refine wpList_app_run _ rfl (.tmp 51) (.tmp 52) rfl _ _ ?x1 ?x2 _ _ hr9 ?_; (case x1 => rfl); (case x2 => rfl)))
            clear hr7 hr8 hr9
            go_wp2
            go_roundw
            case rel =>
              have hal : a ≤ L.length := by rw [HLEN.out]; exact ha
              refine ⟨k + 1, L.take a ++ s :: L.drop a, by omega, by go_num, HOWN9.out, sorted_ins HSRT.out hal HGT.out HALL.out, by rw [len_ins hal, HLEN.out], fun x => ?_, HB9.out⟩
              rw [mem_ins]
              constructor
              · rintro (rfl | hx)
                · exact ⟨k, by omega, HFK.out⟩
                · obtain ⟨j, hj, e⟩ := (HMEM.out x).mp hx
                  exact ⟨j, by omega, e⟩
              · rintro ⟨j, hj, e⟩
                by_cases ej : j = k
                · left; rw [← e, ej, HFK.out]
                · exact .inr ((HMEM.out x).mpr ⟨j, by omega, e⟩)
            case measure => simp [intOf]; omega
          · have hakI : ¬ (a : Int) < k := by omega
            clear hB
            go_upto_region 9 with (fail)
            obtain rfl : k = a := by omega
            have hkc2 : (k : Int) ≤ c3 := by have := HKC.out; omega
            cases A3 with
            | none =>
              obtain ⟨hk0, hc0⟩ := HA3N.out rfl
              subst hk0; subst hc0
              have HS9 : Hid (Strs (wr.alloc (.cells #[] 9)) none (0 - 0) (fun i => L.getD (0 + i) ⟨#[]⟩)) := Lib.hid (fun i hi => absurd hi (by omega))
              obtain ⟨v7, w7, hr7, hown7, hg7⟩ := own_app (w := wr.alloc (.cells #[] 9)) (B := w.heap.size) (c := 0) 23 (v := .slice (some ⟨wr.heap.size, 0, none⟩) 0 0) (L := []) (World.ownsRow_made wr #[] 0 HB.out.size (Nat.zero_le _) rfl) HS9.out (by have := ha; first | (simp; done) | (simp; omega)) (by rw [heap_new_size]; have := HB.out.size; omega)
              have hg7' : ∀ q, q < wr.heap.size → w7.heap[q]? = wr.heap[q]? := fun q hq => (hg7.block q (by rw [heap_new_size]; omega) (fun e => by simp only [Value.ownBlock, Option.some.injEq] at e; omega)).trans (Below.heap_alloc _ _ _ hq)
              have HB7 : Hid (Below w.heap.size w w7) := Lib.hid ((HB.out.alloc HB.out.size _).grown hg7 (by rw [heap_new_size]; have := HB.out.size; omega) (fun q e => by simp only [Value.ownBlock, Option.some.injEq] at e; have := HB.out.size; omega))
              obtain ⟨A7, c7, e7, _, hs7⟩ := hown7.strs
              have hl7 : ([] ++ pathL (fun i => L.getD (0 + i) ⟨#[]⟩) (0 - 0)).length = 0 - 0 := by rw [List.nil_append, pathL_length]
              rw [hl7] at e7 hs7
              subst e7
              have hs3' : Strs w7 none 0 (fun i => L.getD i ⟨#[]⟩) := fun i hi => by
                obtain ⟨b, off, e, h1, h2⟩ := HS3.out i (by omega)
                exact ⟨b, off, e, Nat.lt_of_lt_of_le h1 (Nat.le_trans (by rw [heap_new_size]; omega) hg7.size), (World.cell?_of_block (hg7' b h1)).trans h2⟩
              obtain ⟨v8, w8, hr8, hown8, hg8⟩ := cut_app (w := w7.alloc (.cells #[.string s] 9)) (B := w.heap.size) (c := 1) 23 (hs3'.below ((Below.refl _ _).alloc (Nat.le_refl _) _)) (strs_one w7 s) HA3.out (by omega) (by rw [heap_new_size]; have := HB7.out.size; omega)
              have HB8 : Hid (Below w.heap.size w w8) := Lib.hid ((HB7.out.alloc HB7.out.size _).grown hg8 (by rw [heap_new_size]; have := HB7.out.size; omega) (fun q e => by cases e))
              have hs7' : Strs w8 A7 (0 - 0) _ := fun i hi => by
                obtain ⟨b, off, e, h1, h2⟩ := hs7 i hi
                exact ⟨b, off, e, Nat.lt_of_lt_of_le h1 (Nat.le_trans (by rw [heap_new_size]; omega) hg8.size), (World.cell?_of_block ((hg8.block b (by rw [heap_new_size]; omega) (fun e => by cases e)).trans (Below.heap_alloc _ _ _ h1))).trans h2⟩
              obtain ⟨v9, w9, hr9, hown9, hg9⟩ := own_app (w := w8) (B := w.heap.size) (c := c7) 23 hown8 hs7' (by rw [List.length_append, pathL_length]; first | (simp; done) | (simp; omega)) HB8.out.size
              have HB9 : Hid (Below w.heap.size w w9) := Lib.hid (HB8.out.grown hg9 HB8.out.size (fun q e => (hown8.lt q e).1))
              have hL : pathL (fun i => L.getD i ⟨#[]⟩) 0 ++ [s] ++ pathL (fun i => ([] ++ pathL (fun i => L.getD (0 + i) ⟨#[]⟩) (0 - 0)).getD i ⟨#[]⟩) (0 - 0) = L.take 0 ++ s :: L.drop 0 := by
                have h1 := pathL_take L 0 (by rw [HLEN.out]; exact ha)
                have h2 := pathL_dropL L 0
                rw [HLEN.out] at h2
                have h3 : pathL (fun i => ([] ++ pathL (fun i => L.getD (0 + i) ⟨#[]⟩) (0 - 0)).getD i ⟨#[]⟩) (0 - 0) = ([] ++ pathL (fun i => L.getD (0 + i) ⟨#[]⟩) (0 - 0)) := by rw [pathL_take _ _ (by rw [hl7]; exact Nat.le_refl _), List.take_of_length_le (by rw [hl7]; exact Nat.le_refl _)]
                rw [h1, h3, List.nil_append, h2]
                simp
              rw [hL] at hown9
              have HOWN9 := Lib.hid hown9
              clear hown9 hL hs7' hown8 hs3' hl7 hs7 hown7 hg7' hg7 hg8 hg9
              go_wp2_with (first | (at_builtin; refine wpList_app_run _ rfl (.tmp 40) (.tmp 43) rfl _ _ ?x1 ?x2 _ _ hr7 ?_; (case x1 => rfl); (case x2 => rfl)) | (at_builtin; refine wpList_app_run _ rfl (.tmp 48) (.tmp 50) rfl _ _ ?x1 ?x2 _ _ hr8 ?_; (case x1 => rfl); (case x2 => rfl)) | (at_builtin; refine wpList_app_run _ rfl (.tmp 51) (.tmp 52) rfl _ _ ?x1 ?x2 _ _ hr9 ?_; (case x1 => rfl); (case x2 => rfl)))
              clear hr7 hr8 hr9
              go_wp2
              go_roundw
              case rel =>
                have hal : 0 ≤ L.length := by rw [HLEN.out]; exact ha
                refine ⟨0 + 1, L.take 0 ++ s :: L.drop 0, by omega, by go_num, HOWN9.out, sorted_ins HSRT.out hal HGT.out HALL.out, by rw [len_ins hal, HLEN.out], fun x => ?_, HB9.out⟩
                rw [mem_ins]
                constructor
                · rintro (rfl | hx)
                  · exact ⟨0, by omega, HFK.out⟩
                  · obtain ⟨j, hj, e⟩ := (HMEM.out x).mp hx
                    exact ⟨j, by omega, e⟩
                · rintro ⟨j, hj, e⟩
                  by_cases ej : j = 0
                  · left; rw [← e, ej, HFK.out]
                  · exact .inr ((HMEM.out x).mpr ⟨j, by omega, e⟩)
              case measure => simp [intOf]; omega
            | some x3 =>
              obtain ⟨g3, rfl⟩ := HA3.out x3 rfl
              by_cases hac : k = c3
              · subst hac
                have HS9 : Hid (Strs (wr.alloc (.cells #[] 9)) (some ⟨g3, 0, none⟩) 0 (fun i => L.getD (k + i) ⟨#[]⟩)) := Lib.hid (fun i hi => absurd hi (by omega))
                obtain ⟨v7, w7, hr7, hown7, hg7⟩ := own_app (w := wr.alloc (.cells #[] 9)) (B := w.heap.size) (c := 0) 23 (v := .slice (some ⟨wr.heap.size, 0, none⟩) 0 0) (L := []) (World.ownsRow_made wr #[] 0 HB.out.size (Nat.zero_le _) rfl) HS9.out (by have := ha; first | (simp; done) | (simp; omega)) (by rw [heap_new_size]; have := HB.out.size; omega)
                have hg7' : ∀ q, q < wr.heap.size → w7.heap[q]? = wr.heap[q]? := fun q hq => (hg7.block q (by rw [heap_new_size]; omega) (fun e => by simp only [Value.ownBlock, Option.some.injEq] at e; omega)).trans (Below.heap_alloc _ _ _ hq)
                have HB7 : Hid (Below w.heap.size w w7) := Lib.hid ((HB.out.alloc HB.out.size _).grown hg7 (by rw [heap_new_size]; have := HB.out.size; omega) (fun q e => by simp only [Value.ownBlock, Option.some.injEq] at e; have := HB.out.size; omega))
                obtain ⟨A7, c7, e7, _, hs7⟩ := hown7.strs
                have hl7 : ([] ++ pathL (fun i => L.getD (k + i) ⟨#[]⟩) 0).length = 0 := by rw [List.nil_append, pathL_length]
                rw [hl7] at e7 hs7
                subst e7
                have hs3' : Strs w7 (some ⟨g3, 0, none⟩) k (fun i => L.getD i ⟨#[]⟩) := fun i hi => by
                  obtain ⟨b, off, e, h1, h2⟩ := HS3.out i (by omega)
                  exact ⟨b, off, e, Nat.lt_of_lt_of_le h1 (Nat.le_trans (by rw [heap_new_size]; omega) hg7.size), (World.cell?_of_block (hg7' b h1)).trans h2⟩
                obtain ⟨v8, w8, hr8, hown8, hg8⟩ := cut_app (w := w7.alloc (.cells #[.string s] 9)) (B := w.heap.size) (c := 1) 23 (hs3'.below ((Below.refl _ _).alloc (Nat.le_refl _) _)) (strs_one w7 s) HA3.out (by omega) (by rw [heap_new_size]; have := HB7.out.size; omega)
                have HB8 : Hid (Below w.heap.size w w8) := Lib.hid ((HB7.out.alloc HB7.out.size _).grown hg8 (by rw [heap_new_size]; have := HB7.out.size; omega) (fun q e => by cases e))
                have hs7' : Strs w8 A7 0 _ := fun i hi => by
                  obtain ⟨b, off, e, h1, h2⟩ := hs7 i hi
                  exact ⟨b, off, e, Nat.lt_of_lt_of_le h1 (Nat.le_trans (by rw [heap_new_size]; omega) hg8.size), (World.cell?_of_block ((hg8.block b (by rw [heap_new_size]; omega) (fun e => by cases e)).trans (Below.heap_alloc _ _ _ h1))).trans h2⟩
                obtain ⟨v9, w9, hr9, hown9, hg9⟩ := own_app (w := w8) (B := w.heap.size) (c := c7) 23 hown8 hs7' (by rw [List.length_append, pathL_length]; first | (simp; done) | (simp; omega)) HB8.out.size
                have HB9 : Hid (Below w.heap.size w w9) := Lib.hid (HB8.out.grown hg9 HB8.out.size (fun q e => (hown8.lt q e).1))
                have hL : pathL (fun i => L.getD i ⟨#[]⟩) k ++ [s] ++ pathL (fun i => ([] ++ pathL (fun i => L.getD (k + i) ⟨#[]⟩) 0).getD i ⟨#[]⟩) 0 = L.take k ++ s :: L.drop k := by
                  have h1 := pathL_take L k (by rw [HLEN.out]; exact ha)
                  have h2 := pathL_dropL L k
                  rw [HLEN.out, Nat.sub_self] at h2
                  have h3 : pathL (fun i => ([] ++ pathL (fun i => L.getD (k + i) ⟨#[]⟩) 0).getD i ⟨#[]⟩) 0 = ([] ++ pathL (fun i => L.getD (k + i) ⟨#[]⟩) 0) := by rw [pathL_take _ _ (by rw [hl7]; exact Nat.le_refl _), List.take_of_length_le (by rw [hl7]; exact Nat.le_refl _)]
                  rw [h1, h3, List.nil_append, h2]
                  simp
                rw [hL] at hown9
                have HOWN9 := Lib.hid hown9
                clear hown9 hL hs7' hown8 hs3' hl7 hs7 hown7 hg7' hg7 hg8 hg9
                go_wp2_with (first | (at_builtin; refine wpList_app_run _ rfl (.tmp 40) (.tmp 43) rfl _ _ ?x1 ?x2 _ _ hr7 ?_; (case x1 => rfl); (case x2 => rfl)) | (at_builtin; refine wpList_app_run _ rfl (.tmp 48) (.tmp 50) rfl _ _ ?x1 ?x2 _ _ hr8 ?_; (case x1 => rfl); (case x2 => rfl)) | (at_builtin; refine wpList_app_run _ rfl (.tmp 51) (.tmp 52) rfl _ _ ?x1 ?x2 _ _ hr9 ?_; (case x1 => rfl); (case x2 => rfl)))
                clear hr7 hr8 hr9
                go_wp2
                go_roundw
                case rel =>
                  have hal : k ≤ L.length := by rw [HLEN.out]; exact ha
                  refine ⟨k + 1, L.take k ++ s :: L.drop k, by omega, by go_num, HOWN9.out, sorted_ins HSRT.out hal HGT.out HALL.out, by rw [len_ins hal, HLEN.out], fun x => ?_, HB9.out⟩
                  rw [mem_ins]
                  constructor
                  · rintro (rfl | hx)
                    · exact ⟨k, by omega, HFK.out⟩
                    · obtain ⟨j, hj, e⟩ := (HMEM.out x).mp hx
                      exact ⟨j, by omega, e⟩
                  · rintro ⟨j, hj, e⟩
                    by_cases ej : j = k
                    · left; rw [← e, ej, HFK.out]
                    · exact .inr ((HMEM.out x).mpr ⟨j, by omega, e⟩)
                case measure => simp [intOf]; omega
              · have hac' : ¬ c3 = k := fun e => hac e.symm
                have HS9 : Hid (Strs (wr.alloc (.cells #[] 9)) (some ⟨g3, k, none⟩) 0 (fun i => L.getD (k + i) ⟨#[]⟩)) := Lib.hid (fun i hi => absurd hi (by omega))
                obtain ⟨v7, w7, hr7, hown7, hg7⟩ := own_app (w := wr.alloc (.cells #[] 9)) (B := w.heap.size) (c := c3 - k) 23 (v := .slice (some ⟨wr.heap.size, 0, none⟩) 0 0) (L := []) (World.ownsRow_made wr #[] 0 HB.out.size (Nat.zero_le _) rfl) HS9.out (by have := ha; first | (simp; done) | (simp; omega)) (by rw [heap_new_size]; have := HB.out.size; omega)
                have hg7' : ∀ q, q < wr.heap.size → w7.heap[q]? = wr.heap[q]? := fun q hq => (hg7.block q (by rw [heap_new_size]; omega) (fun e => by simp only [Value.ownBlock, Option.some.injEq] at e; omega)).trans (Below.heap_alloc _ _ _ hq)
                have HB7 : Hid (Below w.heap.size w w7) := Lib.hid ((HB.out.alloc HB.out.size _).grown hg7 (by rw [heap_new_size]; have := HB.out.size; omega) (fun q e => by simp only [Value.ownBlock, Option.some.injEq] at e; have := HB.out.size; omega))
                obtain ⟨A7, c7, e7, _, hs7⟩ := hown7.strs
                have hl7 : ([] ++ pathL (fun i => L.getD (k + i) ⟨#[]⟩) 0).length = 0 := by rw [List.nil_append, pathL_length]
                rw [hl7] at e7 hs7
                subst e7
                have hs3' : Strs w7 (some ⟨g3, 0, none⟩) k (fun i => L.getD i ⟨#[]⟩) := fun i hi => by
                  obtain ⟨b, off, e, h1, h2⟩ := HS3.out i (by omega)
                  exact ⟨b, off, e, Nat.lt_of_lt_of_le h1 (Nat.le_trans (by rw [heap_new_size]; omega) hg7.size), (World.cell?_of_block (hg7' b h1)).trans h2⟩
                obtain ⟨v8, w8, hr8, hown8, hg8⟩ := cut_app (w := w7.alloc (.cells #[.string s] 9)) (B := w.heap.size) (c := 1) 23 (hs3'.below ((Below.refl _ _).alloc (Nat.le_refl _) _)) (strs_one w7 s) HA3.out (by omega) (by rw [heap_new_size]; have := HB7.out.size; omega)
                have HB8 : Hid (Below w.heap.size w w8) := Lib.hid ((HB7.out.alloc HB7.out.size _).grown hg8 (by rw [heap_new_size]; have := HB7.out.size; omega) (fun q e => by cases e))
                have hs7' : Strs w8 A7 0 _ := fun i hi => by
                  obtain ⟨b, off, e, h1, h2⟩ := hs7 i hi
                  exact ⟨b, off, e, Nat.lt_of_lt_of_le h1 (Nat.le_trans (by rw [heap_new_size]; omega) hg8.size), (World.cell?_of_block ((hg8.block b (by rw [heap_new_size]; omega) (fun e => by cases e)).trans (Below.heap_alloc _ _ _ h1))).trans h2⟩
                obtain ⟨v9, w9, hr9, hown9, hg9⟩ := own_app (w := w8) (B := w.heap.size) (c := c7) 23 hown8 hs7' (by rw [List.length_append, pathL_length]; first | (simp; done) | (simp; omega)) HB8.out.size
                have HB9 : Hid (Below w.heap.size w w9) := Lib.hid (HB8.out.grown hg9 HB8.out.size (fun q e => (hown8.lt q e).1))
                have hL : pathL (fun i => L.getD i ⟨#[]⟩) k ++ [s] ++ pathL (fun i => ([] ++ pathL (fun i => L.getD (k + i) ⟨#[]⟩) 0).getD i ⟨#[]⟩) 0 = L.take k ++ s :: L.drop k := by
                  have h1 := pathL_take L k (by rw [HLEN.out]; exact ha)
                  have h2 := pathL_dropL L k
                  rw [HLEN.out, Nat.sub_self] at h2
                  have h3 : pathL (fun i => ([] ++ pathL (fun i => L.getD (k + i) ⟨#[]⟩) 0).getD i ⟨#[]⟩) 0 = ([] ++ pathL (fun i => L.getD (k + i) ⟨#[]⟩) 0) := by rw [pathL_take _ _ (by rw [hl7]; exact Nat.le_refl _), List.take_of_length_le (by rw [hl7]; exact Nat.le_refl _)]
                  rw [h1, h3, List.nil_append, h2]
                  simp
                rw [hL] at hown9
                have HOWN9 := Lib.hid hown9
                clear hown9 hL hs7' hown8 hs3' hl7 hs7 hown7 hg7' hg7 hg8 hg9
                go_wp2_with (first | (at_builtin; refine wpList_app_run _ rfl (.tmp 40) (.tmp 43) rfl _ _ ?x1 ?x2 _ _ hr7 ?_; (case x1 => rfl); (case x2 => rfl)) | (at_builtin; refine wpList_app_run _ rfl (.tmp 48) (.tmp 50) rfl _ _ ?x1 ?x2 _ _ hr8 ?_; (case x1 => rfl); (case x2 => rfl)) | (at_builtin; refine wpList_app_run _ rfl (.tmp 51) (.tmp 52) rfl _ _ ?x1 ?x2 _ _ hr9 ?_; (case x1 => rfl); (case x2 => rfl)))
                clear hr7 hr8 hr9
                go_wp2
                go_roundw
                case rel =>
                  have hal : k ≤ L.length := by rw [HLEN.out]; exact ha
                  refine ⟨k + 1, L.take k ++ s :: L.drop k, by omega, by go_num, HOWN9.out, sorted_ins HSRT.out hal HGT.out HALL.out, by rw [len_ins hal, HLEN.out], fun x => ?_, HB9.out⟩
                  rw [mem_ins]
                  constructor
                  · rintro (rfl | hx)
                    · exact ⟨k, by omega, HFK.out⟩
                    · obtain ⟨j, hj, e⟩ := (HMEM.out x).mp hx
                      exact ⟨j, by omega, e⟩
                  · rintro ⟨j, hj, e⟩
                    by_cases ej : j = k
                    · left; rw [← e, ej, HFK.out]
                    · exact .inr ((HMEM.out x).mpr ⟨j, by omega, e⟩)
                case measure => simp [intOf]; omega
    · obtain rfl : k = n := by omega
      go_wp2
      go_ret
      exact ⟨_, L, rfl, HOWN.out, HSRT.out, HLEN.out, HMEM.out, HB.out⟩
end Go.Proofs.YteipeagdflcjjaaDoor.Am
