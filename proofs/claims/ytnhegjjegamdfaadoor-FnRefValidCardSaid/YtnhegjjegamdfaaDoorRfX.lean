/- ReferenceName.Validate. -/
import Derived.Test.YtnhegjjegamdfaaDoorRfU
namespace Go.Proofs.YtnhegjjegamdfaaDoor
open Go.RowKit
set_option linter.unusedSimpArgs false
set_option linter.unusedVariables false

structure ErrAt (w : World) (g : Nat) (a : Addr) (msg : ByteArray) : Prop where
  var : w.cell? ⟨g, 0, none⟩ = some (.iface 88 (.pointer (some a)))
  text : w.cell? a = some (.string msg)
  some : msg.size ≠ 0
  lt : g < w.heap.size ∧ a.block < w.heap.size
theorem ErrAt.below {w w' : World} {g : Nat} {a : Addr} {msg : ByteArray} (h : ErrAt w g a msg) (hb : Below w.heap.size w w') : ErrAt w' g a msg :=
  ⟨(hb.cell (p := ⟨g, 0, none⟩) h.lt.1).trans h.var, (hb.cell h.lt.2).trans h.text, h.some, Nat.lt_of_lt_of_le h.lt.1 hb.size, Nat.lt_of_lt_of_le h.lt.2 hb.size⟩
theorem bad_part {l : List Nat} {k : Nat} {p : List Nat} (hh : l ≠ headL) (hk : (parts l)[k]? = some p) (h : ¬ PartOk p ∨ Hyph l k p) : ¬ ValidI l := by
  rintro (h1 | ⟨_, _, _, h1⟩)
  · exact hh h1
  · rcases h with h | h
    · exact h (h1 k p hk).1
    · exact (h1 k p hk).2 h
theorem part_at {L : List ByteArray} {R : List (List Nat)} (h : L.map nb = R) {j : Nat} (hj : j < L.length) : R[j]? = some (nb (L.getD j ⟨#[]⟩)) := by
  rw [← h, List.getElem?_map, List.getD_eq_getElem?_getD, List.getElem?_eq_getElem hj]; rfl
theorem all_at {L : List ByteArray} {R : List (List Nat)} (h : L.map nb = R) {Q : Nat → List Nat → Prop} (h2 : ∀ j, j < L.length → Q j (nb (L.getD j ⟨#[]⟩))) : ∀ i p, R[i]? = some p → Q i p := by
  intro i p hi
  have hlt : i < L.length := by
    rw [← h] at hi
    have := (List.getElem?_eq_some_iff.mp hi).1
    rwa [List.length_map] at this
  rw [part_at h hlt] at hi
  have := h2 i hlt
  rwa [Option.some.inj hi] at this
theorem parts_len (l : List Nat) : ∀ p ∈ parts l, p.length ≤ l.length := by
  refine parts_ind (fun l => ∀ p ∈ parts l, p.length ≤ l.length) ?_ ?_ l
  · intro l hl p hp
    rw [parts_one l hl, List.mem_singleton] at hp
    rw [hp]; exact Nat.le_refl _
  · intro a b ha ih p hp
    rw [parts_cut a b ha] at hp
    rw [List.length_append, List.length_cons]
    rcases List.mem_cons.mp hp with rfl | hp
    · omega
    · have := ih p hp; omega
theorem part_len {s : ByteArray} {k : Nat} {p : List Nat} (h : (parts (nb s))[k]? = some p) : p.length ≤ s.size := by
  have := parts_len (nb s) p (List.mem_of_getElem? h)
  rwa [nb_length] at this
def ValPost (s : ByteArray) (a : Addr) (w : World) (e : Ending) (w' : World) : Prop :=
  (ValidI (nb s) ∧ e = .returned .nilIface ∧ Below w.heap.size w w') ∨ (¬ ValidI (nb s) ∧ e = .returned (.iface 88 (.pointer (some a))) ∧ Below w.heap.size w w')

set_option maxRecDepth 100000 in
set_option maxHeartbeats 8000000 in
theorem Validate_any (s : ByteArray) (a : Addr) (msg : ByteArray) (w : World) (hs : s.size ≤ 1000) (hv : ErrAt w 0 a msg) :
    Calls Tryd.prog 17 #[.string s] w (ValPost s a w) := by
  have HV := Lib.hid hv
  have hv0 := hv.var
  clear hv
  by_cases h0 : s.size = 0
  · have h0i : (s.size : Int) = 0 := by omega
    have HN : Hid (¬ ValidI (nb s)) := Lib.hid (by
      rw [(nb_nil_iff s).mpr h0]
      rintro (h | ⟨h, _⟩)
      · cases h
      · exact h rfl)
    go_enter Tryd.func17, Tryd.ntmps17
    go_wp2
    go_ret
    exact .inr ⟨HN.out, rfl, Below.refl _ _⟩
  have h0i : ((s.size : Int) == 0) = false := beq_eq_false_iff_ne.mpr (by omega)
  have HS0 : Hid (nb s ≠ []) := Lib.hid (fun h => h0 ((nb_nil_iff s).mp h))
  have hq := beq_str s [72, 69, 65, 68]
  cases hB : (nb s == ([72, 69, 65, 68] : List UInt8).map UInt8.toNat) with
  | true =>
    rw [hB] at hq
    have HY : Hid (ValidI (nb s)) := Lib.hid (.inl (beq_iff_eq.mp hB))
    clear hB
    go_enter Tryd.func17, Tryd.ntmps17
    go_wp2
    go_ret
    exact .inl ⟨HY.out, rfl, Below.refl _ _⟩
  | false =>
  rw [hB] at hq
  have HH : Hid (nb s ≠ headL) := Lib.hid (fun h => by rw [h] at hB; exact absurd hB (by decide))
  clear hB h0
  go_enter Tryd.func17, Tryd.ntmps17
  go_wp2_with fail
  with_reducible refine (hasSuffix_p s ⟨#[46]⟩ _ (by omega) (by decide)).mono ?_
  rintro e w' ⟨B, rfl, hB, rfl⟩
  clear hq h0i
  cases B with
  | true =>
    have HN : Hid (¬ ValidI (nb s)) := Lib.hid (by
      rintro (h | ⟨_, h, _⟩)
      · exact HH.out h
      · exact h (hB.mp rfl))
    clear hB
    go_wp2
    go_ret
    exact .inr ⟨HN.out, rfl, Below.refl _ _⟩
  | false =>
  have HSUF : Hid (¬ Suf (nb s) [46]) := Lib.hid (fun h => by have := hB.mpr h; cases this)
  clear hB
  go_wp2_with fail
  with_reducible refine (zzSplit_any s _ (by omega)).mono ?_
  rintro e w2 ⟨v, L, rfl, hown, hL, hLl, hb⟩
  obtain ⟨A, c, rfl, hLm, hst⟩ := hown.strs
  have HL := Lib.hid hL; have HST := Lib.hid hst; have HB := Lib.hid hb
  have HLEN : Hid ((parts (nb s)).length = L.length) := Lib.hid (by rw [← hL, List.length_map])
  have hv2 := (HV.out.below hb).var
  clear hown hL hst hb hv0
  unfold maxLen at hLm
  by_cases h2 : L.length < 2
  · have h2i : (L.length : Int) < 2 := by omega
    have HN : Hid (¬ ValidI (nb s)) := Lib.hid (by
      rintro (h | ⟨_, _, h, _⟩)
      · exact HH.out h
      · rw [HLEN.out] at h; omega)
    go_wp2
    go_ret
    exact .inr ⟨HN.out, rfl, HB.out⟩
  have h2i : (2 : Int) ≤ L.length := by omega
  go_wp2_with fail
  with_reducible refine (IsBranch_any s _ hs).mono ?_
  rintro e w3 ⟨B1, rfl, hB1, rfl⟩
  have HB1 : Hid (B1 = true ↔ Pre (nb s) branchL) := Lib.hid hB1
  clear hB1
  go_wp2_with fail
  with_reducible refine (IsTag_any s _ hs).mono ?_
  rintro e w3 ⟨B2, rfl, hB2, rfl⟩
  have HB2 : Hid (B2 = true ↔ Pre (nb s) tagL) := Lib.hid hB2
  clear hB2 hv2
  go_wp2
  go_loopw [7, 8, 31] (fun _ _ i wr => ∃ k : Nat, k ≤ L.length ∧ i = .int .i64 k ∧ Below w2.heap.size w2 wr ∧ ∀ j, j < k → (PartOk (nb (L.getD j ⟨#[]⟩)) ∧ ¬ Hyph (nb s) j (nb (L.getD j ⟨#[]⟩)))) (fun _ _ i _ => L.length - (intOf i).toNat)
  case atStart => exact ⟨0, Nat.zero_le _, rfl, Below.refl _ _, fun j h => by omega⟩
  case round =>
    obtain ⟨k, hk, rfl, hbr, hall⟩ := hrel
    have HA := Lib.hid hall
    have HBR := Lib.hid hbr
    have HBW : Hid (Below w.heap.size w wr) := Lib.hid (HB.out.trans (hbr.mono HB.out.size))
    clear hall hbr
    by_cases hlt : k < L.length
    · have hlti : (k : Int) < L.length := by omega
      have hvr := (HV.out.below HBW.out).var
      obtain ⟨b, off, rfl, _, hcell⟩ := (HST.out.below HBR.out).at k hlt
      have HIX := Lib.hid (part_at HL.out hlt)
      generalize hp : L.getD k ⟨#[]⟩ = p at hcell HIX
      have HPK := Lib.hid hp; clear hp
      have hpz : p.size ≤ 1000 := by
        have hm := part_len HIX.out
        rw [nb_length] at hm
        omega
      by_cases hp0 : p.size = 0
      · have hp0i : (p.size : Int) = 0 := by omega
        have HN := Lib.hid (bad_part HH.out HIX.out (.inl (fun h => h.1 ((nb_nil_iff p).mpr hp0))))
        go_wp2
        go_ret
        exact .inr ⟨HN.out, rfl, HBW.out⟩
      have hp0i : ((p.size : Int) == 0) = false := beq_eq_false_iff_ne.mpr (by omega)
      have H0 : Hid (nb p ≠ []) := Lib.hid (fun h => hp0 ((nb_nil_iff p).mp h))
      clear hp0
      go_wp2_with fail
      with_reducible refine (hasPrefix_p p ⟨#[46]⟩ _ (by omega) (by decide)).mono ?_
      rintro e wx1 ⟨T1, rfl, hT1, rfl⟩
      have HT1 : Hid (T1 = true ↔ Pre (nb p) [46]) := Lib.hid hT1
      clear hT1 hp0i
      cases T1 with
      | true =>
        have HN := Lib.hid (bad_part HH.out HIX.out (.inl (fun h => h.2.1 (HT1.out.mp rfl))))
        go_wp2
        go_ret
        exact .inr ⟨HN.out, rfl, HBW.out⟩
      | false =>
      have H1 : Hid (¬ (Pre (nb p) [46])) := Lib.hid (fun h => by have := HT1.out.mpr h; cases this)
      clear HT1
      go_wp2_with fail
      with_reducible refine (zzContains_any p ⟨#[46, 46]⟩ _ (by omega) (by decide)).mono ?_
      rintro e wx2 ⟨T2, rfl, hT2, rfl⟩
      have HT2 : Hid (T2 = true ↔ Has (nb p) [46, 46]) := Lib.hid hT2
      clear hT2
      cases T2 with
      | true =>
        have HN := Lib.hid (bad_part HH.out HIX.out (.inl (fun h => h.2.2.1 (HT2.out.mp rfl))))
        go_wp2
        go_ret
        exact .inr ⟨HN.out, rfl, HBW.out⟩
      | false =>
      have H2 : Hid (¬ (Has (nb p) [46, 46])) := Lib.hid (fun h => by have := HT2.out.mpr h; cases this)
      clear HT2
      go_wp2_with fail
      with_reducible refine (zzControl_any p _ (by omega)).mono ?_
      rintro e wx3 ⟨T3, rfl, hT3, rfl⟩
      have HT3 : Hid (T3 = true ↔ ∃ c ∈ nb p, ctl c) := Lib.hid hT3
      clear hT3
      cases T3 with
      | true =>
        have HN := Lib.hid (bad_part HH.out HIX.out (.inl (fun h => by obtain ⟨c, h1, h2⟩ := HT3.out.mp rfl; exact h.2.2.2.1 c h1 h2)))
        go_wp2
        go_ret
        exact .inr ⟨HN.out, rfl, HBW.out⟩
      | false =>
      have H3 : Hid (¬ (∃ c ∈ nb p, ctl c)) := Lib.hid (fun h => by have := HT3.out.mpr h; cases this)
      clear HT3
      go_wp2_with fail
      with_reducible refine (zzContainsAny_any p _ hpz).mono ?_
      rintro e wq ⟨T4, rfl, hT4, hbq⟩
      have HBQ : Hid (Below w2.heap.size w2 wq) := Lib.hid (HBR.out.trans (hbq.mono HBR.out.size))
      have HBX : Hid (Below w.heap.size w wq) := Lib.hid (HB.out.trans (HBQ.out.mono HB.out.size))
      have hvq := (HV.out.below HBX.out).var
      clear hbq hvr
      have HT4 : Hid (T4 = true ↔ ∃ c ∈ nb p, c ∈ anyL) := Lib.hid hT4
      clear hT4
      cases T4 with
      | true =>
        have HN := Lib.hid (bad_part HH.out HIX.out (.inl (fun h => by obtain ⟨c, h1, h2⟩ := HT4.out.mp rfl; exact h.2.2.2.2.1 c h1 h2)))
        go_wp2
        go_ret
        exact .inr ⟨HN.out, rfl, HBX.out⟩
      | false =>
      have H4 : Hid (¬ (∃ c ∈ nb p, c ∈ anyL)) := Lib.hid (fun h => by have := HT4.out.mpr h; cases this)
      clear HT4
      go_wp2_with fail
      with_reducible refine (zzContains_any p ⟨#[64, 123]⟩ _ (by omega) (by decide)).mono ?_
      rintro e wx5 ⟨T5, rfl, hT5, rfl⟩
      have HT5 : Hid (T5 = true ↔ Has (nb p) [64, 123]) := Lib.hid hT5
      clear hT5
      cases T5 with
      | true =>
        have HN := Lib.hid (bad_part HH.out HIX.out (.inl (fun h => h.2.2.2.2.2.1 (HT5.out.mp rfl))))
        go_wp2
        go_ret
        exact .inr ⟨HN.out, rfl, HBX.out⟩
      | false =>
      have H5 : Hid (¬ (Has (nb p) [64, 123])) := Lib.hid (fun h => by have := HT5.out.mpr h; cases this)
      clear HT5
      have hq6 := beq_str p [64]
      cases hB6 : (nb p == ([64] : List UInt8).map UInt8.toNat) with
      | true =>
        rw [hB6] at hq6
        have HN := Lib.hid (bad_part HH.out HIX.out (.inl (fun h => h.2.2.2.2.2.2.1 (beq_iff_eq.mp hB6))))
        clear hB6
        go_wp2
        go_ret
        exact .inr ⟨HN.out, rfl, HBX.out⟩
      | false =>
      rw [hB6] at hq6
      have H6 : Hid (nb p ≠ [64]) := Lib.hid (fun h => by rw [h] at hB6; exact absurd hB6 (by decide))
      clear hB6
      go_wp2_with fail
      with_reducible refine (zzContains_any p ⟨#[92]⟩ _ (by omega) (by decide)).mono ?_
      rintro e wx7 ⟨T7, rfl, hT7, rfl⟩
      have HT7 : Hid (T7 = true ↔ Has (nb p) [92]) := Lib.hid hT7
      clear hT7
      cases T7 with
      | true =>
        have HN := Lib.hid (bad_part HH.out HIX.out (.inl (fun h => h.2.2.2.2.2.2.2.1 (HT7.out.mp rfl))))
        go_wp2
        go_ret
        exact .inr ⟨HN.out, rfl, HBX.out⟩
      | false =>
      have H7 : Hid (¬ (Has (nb p) [92])) := Lib.hid (fun h => by have := HT7.out.mpr h; cases this)
      clear HT7
      go_wp2_with fail
      with_reducible refine (hasSuffix_p p ⟨#[46, 108, 111, 99, 107]⟩ _ (by omega) (by decide)).mono ?_
      rintro e wx8 ⟨T8, rfl, hT8, rfl⟩
      have HT8 : Hid (T8 = true ↔ Suf (nb p) lockL) := Lib.hid hT8
      clear hT8
      cases T8 with
      | true =>
        have HN := Lib.hid (bad_part HH.out HIX.out (.inl (fun h => h.2.2.2.2.2.2.2.2 (HT8.out.mp rfl))))
        go_wp2
        go_ret
        exact .inr ⟨HN.out, rfl, HBX.out⟩
      | false =>
      have H8 : Hid (¬ (Suf (nb p) lockL)) := Lib.hid (fun h => by have := HT8.out.mpr h; cases this)
      clear HT8
      have HOK : Hid (PartOk (nb p)) := Lib.hid ⟨H0.out, H1.out, H2.out, fun c hc h => H3.out ⟨c, hc, h⟩, fun c hc h => H4.out ⟨c, hc, h⟩, H5.out, H6.out, H7.out, H8.out⟩
      clear H0 H1 H2 H3 H4 H5 H6 H7 H8 hq6
      have hor : (B1 || B2) = true ↔ (Pre (nb s) branchL ∨ Pre (nb s) tagL) := by rw [Bool.or_eq_true, HB1.out, HB2.out]
      have HOR := Lib.hid hor; clear hor
      by_cases hbt : (B1 || B2) = true
      · have hcase : B1 = true ∨ (B1 = false ∧ B2 = true) := by cases B1 <;> simp_all
        have HBT : Hid (Pre (nb s) branchL ∨ Pre (nb s) tagL) := Lib.hid (HOR.out.mp hbt)
        clear hbt HOR HB1 HB2
        rcases hcase with rfl | ⟨rfl, rfl⟩
        · go_wp2_with fail
          with_reducible refine (hasPrefix_p p ⟨#[45]⟩ _ (by omega) (by decide)).mono ?_
          rintro e wx9 ⟨T9, rfl, hT9, rfl⟩
          have HT9 : Hid (T9 = true ↔ Pre (nb p) [45]) := Lib.hid hT9
          clear hT9
          by_cases hk2 : k = 2
          · have hk2i : ((k : Int) == 2) = true := beq_iff_eq.mpr (by omega)
            cases T9 with
            | true =>
              have HN := Lib.hid (bad_part HH.out HIX.out (.inr ⟨HBT.out, HT9.out.mp rfl, hk2⟩))
              go_wp2
              go_ret
              exact .inr ⟨HN.out, rfl, HBX.out⟩
            | false =>
              have HNH : Hid (¬ Hyph (nb s) k (nb p)) := Lib.hid (fun h => by have := HT9.out.mpr h.2.1; cases this)
              go_wp2
              go_roundw
              case rel =>
                refine ⟨k + 1, by omega, by go_num, HBQ.out, fun j hj => ?_⟩
                by_cases e : j = k
                · subst e; rw [HPK.out]; exact ⟨HOK.out, HNH.out⟩
                · exact HA.out j (by omega)
              case measure => simp [intOf]; omega
          · have hk2i : ((k : Int) == 2) = false := beq_eq_false_iff_ne.mpr (by omega)
            have HNH : Hid (¬ Hyph (nb s) k (nb p)) := Lib.hid (fun h => hk2 h.2.2)
            clear hk2
            cases T9 with
            | true =>
              go_wp2
              go_roundw
              case rel =>
                refine ⟨k + 1, by omega, by go_num, HBQ.out, fun j hj => ?_⟩
                by_cases e : j = k
                · subst e; rw [HPK.out]; exact ⟨HOK.out, HNH.out⟩
                · exact HA.out j (by omega)
              case measure => simp [intOf]; omega
            | false =>
              go_wp2
              go_roundw
              case rel =>
                refine ⟨k + 1, by omega, by go_num, HBQ.out, fun j hj => ?_⟩
                by_cases e : j = k
                · subst e; rw [HPK.out]; exact ⟨HOK.out, HNH.out⟩
                · exact HA.out j (by omega)
              case measure => simp [intOf]; omega
        · go_wp2_with fail
          with_reducible refine (hasPrefix_p p ⟨#[45]⟩ _ (by omega) (by decide)).mono ?_
          rintro e wx9 ⟨T9, rfl, hT9, rfl⟩
          have HT9 : Hid (T9 = true ↔ Pre (nb p) [45]) := Lib.hid hT9
          clear hT9
          by_cases hk2 : k = 2
          · have hk2i : ((k : Int) == 2) = true := beq_iff_eq.mpr (by omega)
            cases T9 with
            | true =>
              have HN := Lib.hid (bad_part HH.out HIX.out (.inr ⟨HBT.out, HT9.out.mp rfl, hk2⟩))
              go_wp2
              go_ret
              exact .inr ⟨HN.out, rfl, HBX.out⟩
            | false =>
              have HNH : Hid (¬ Hyph (nb s) k (nb p)) := Lib.hid (fun h => by have := HT9.out.mpr h.2.1; cases this)
              go_wp2
              go_roundw
              case rel =>
                refine ⟨k + 1, by omega, by go_num, HBQ.out, fun j hj => ?_⟩
                by_cases e : j = k
                · subst e; rw [HPK.out]; exact ⟨HOK.out, HNH.out⟩
                · exact HA.out j (by omega)
              case measure => simp [intOf]; omega
          · have hk2i : ((k : Int) == 2) = false := beq_eq_false_iff_ne.mpr (by omega)
            have HNH : Hid (¬ Hyph (nb s) k (nb p)) := Lib.hid (fun h => hk2 h.2.2)
            clear hk2
            cases T9 with
            | true =>
              go_wp2
              go_roundw
              case rel =>
                refine ⟨k + 1, by omega, by go_num, HBQ.out, fun j hj => ?_⟩
                by_cases e : j = k
                · subst e; rw [HPK.out]; exact ⟨HOK.out, HNH.out⟩
                · exact HA.out j (by omega)
              case measure => simp [intOf]; omega
            | false =>
              go_wp2
              go_roundw
              case rel =>
                refine ⟨k + 1, by omega, by go_num, HBQ.out, fun j hj => ?_⟩
                by_cases e : j = k
                · subst e; rw [HPK.out]; exact ⟨HOK.out, HNH.out⟩
                · exact HA.out j (by omega)
              case measure => simp [intOf]; omega
      · have hB1 : B1 = false := by cases B1 <;> simp_all
        have hB2 : B2 = false := by cases B2 <;> simp_all
        have HNH : Hid (¬ Hyph (nb s) k (nb p)) := Lib.hid (fun h => hbt (HOR.out.mpr h.1))
        clear hbt HOR
        subst hB1 hB2
        go_wp2
        go_roundw
        case rel =>
          refine ⟨k + 1, by omega, by go_num, HBQ.out, fun j hj => ?_⟩
          by_cases e : j = k
          · subst e; rw [HPK.out]; exact ⟨HOK.out, HNH.out⟩
          · exact HA.out j (by omega)
        case measure => simp [intOf]; omega
    · have hlti : (L.length : Int) ≤ k := by omega
      have HY : Hid (ValidI (nb s)) := Lib.hid (.inr ⟨HS0.out, HSUF.out, by rw [HLEN.out]; omega, all_at (Q := fun i p => PartOk p ∧ ¬ Hyph (nb s) i p) HL.out (fun j hj => HA.out j (by omega))⟩)
      go_wp2
      go_ret
      exact .inl ⟨HY.out, rfl, HBW.out⟩
end Go.Proofs.YtnhegjjegamdfaaDoor
