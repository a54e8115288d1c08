/- IsSafe; spec.RefSafe. -/
import Derived.Test.YtnhegjjegamdfaaDoorRfS
namespace Go.Proofs.YtnhegjjegamdfaaDoor
open Go.RowKit
set_option linter.unusedSimpArgs false
set_option linter.unusedVariables false

def BelowPost (Q : Prop) (w : World) (e : Ending) (w' : World) : Prop := ∃ B : Bool, e = .returned (.bool B) ∧ (B = true ↔ Q) ∧ Below w.heap.size w w'
def CutPost (s p : ByteArray) (w : World) (e : Ending) (w' : World) : Prop :=
  ∃ (r : ByteArray) (B : Bool), e = .returned (.tuple #[.string r, .bool B]) ∧ (B = true → nb s = nb p ++ nb r ∧ r.size ≤ s.size) ∧ (B = false → ¬ Pre (nb s) (nb p)) ∧ w = w'
set_option maxHeartbeats 400000 in
theorem cutLite_any (s p : ByteArray) (w : World) (hs : s.size ≤ 10000) (hp : p.size ≤ 10000) : Calls Tryd.prog 35 #[.string s, .string p] w (CutPost s p w) := by
  go_enter Tryd.func35, Tryd.ntmps35
  go_wp2_with fail
  with_reducible refine (hasPrefixLite_p s p _ hs hp).mono ?_
  rintro e w' ⟨B, rfl, hB, rfl⟩
  cases B with
  | true =>
    have hpre := hB.mp rfl
    have hle := pre_le hpre
    have hle' : (p.size : Int) ≤ s.size := by omega
    have HB := Lib.hid hpre
    clear hB hpre
    go_wp2
    go_ret2
    refine ⟨_, true, rfl, fun _ => ⟨?_, extract_le _ _ _ _ (Nat.le_refl _)⟩, fun h => (by cases h), rfl⟩
    obtain ⟨b, hb⟩ := HB.out
    rw [nb_tail, hb, ← nb_length p, List.drop_left]
  | false =>
    have HB : Hid (¬ Pre (nb s) (nb p)) := Lib.hid (fun h => by have := hB.mpr h; cases this)
    clear hB
    go_wp2
    go_ret2
    exact ⟨_, false, rfl, fun h => (by cases h), fun _ => HB.out, rfl⟩
set_option maxHeartbeats 400000 in
theorem cut_any (s p : ByteArray) (w : World) (hs : s.size ≤ 10000) (hp : p.size ≤ 10000) : Calls Tryd.prog 24 #[.string s, .string p] w (CutPost s p w) := by
  go_enter Tryd.func24, Tryd.ntmps24
  go_wp2_with fail
  with_reducible refine (cutLite_any s p _ hs hp).mono ?_
  rintro e w' ⟨r, B, rfl, h1, h2, rfl⟩
  have H1 := Lib.hid h1; have H2 := Lib.hid h2
  clear h1 h2
  go_wp2
  go_ret2
  exact ⟨r, B, rfl, H1.out, H2.out, rfl⟩

theorem nb_nil_iff (s : ByteArray) : nb s = [] ↔ s.size = 0 := by rw [← List.length_eq_zero_iff, nb_length]
def PGood (p : List Nat) : Prop := p ≠ [] ∧ p ≠ [46] ∧ p ≠ [46, 46]
theorem all_of {L : List ByteArray} {R : List (List Nat)} (h : L.map nb = R) {Q : List Nat → Prop} (h2 : ∀ j, j < L.length → Q (nb (L.getD j ⟨#[]⟩))) : ∀ p ∈ R, Q p := by
  intro p hp
  rw [← h] at hp
  obtain ⟨s, hs, rfl⟩ := List.mem_map.mp hp
  obtain ⟨j, hj, rfl⟩ := List.mem_iff_getElem.mp hs
  have := h2 j hj
  rwa [List.getD_eq_getElem?_getD, List.getElem?_eq_getElem hj] at this
theorem part_of {L : List ByteArray} {R : List (List Nat)} (h : L.map nb = R) {j : Nat} (hj : j < L.length) : nb (L.getD j ⟨#[]⟩) ∈ R := by
  rw [← h, List.getD_eq_getElem?_getD, List.getElem?_eq_getElem hj]
  exact List.mem_map.mpr ⟨_, List.getElem_mem hj, rfl⟩
def capOk (c : Nat) : Prop := (65 ≤ c ∧ c ≤ 90) ∨ c = 95
theorem caps_all {s : ByteArray} (h : ∀ j, j < s.size → capOk (bx s j)) : ∀ c ∈ nb s, (65 ≤ c ∧ c ≤ 90) ∨ c = 95 := by
  intro c hc
  obtain ⟨j, hj, rfl⟩ := List.mem_iff_getElem.mp hc
  rw [bx_getElem]
  rw [nb_length] at hj
  exact h j hj
theorem bx_mem {s : ByteArray} {k : Nat} (h : k < s.size) : bx s k ∈ nb s := by
  rw [← bx_getElem s k (by rw [nb_length]; exact h)]; exact List.getElem_mem _

set_option maxRecDepth 100000 in
set_option maxHeartbeats 2000000 in
theorem IsSafe_any (s : ByteArray) (w : World) (hs : s.size ≤ 1000) :
    Calls Tryd.prog 14 #[.string s] w (BelowPost (SafeP (nb s)) w) := by
  by_cases h0 : s.size = 0
  · have he := isEmpty_str s h0
    have HN : Hid (¬ SafeP (nb s)) := Lib.hid (by
      have hn := (nb_nil_iff s).mpr h0
      rw [hn]
      rintro (⟨r, h, _⟩ | ⟨_, h, _⟩)
      · cases h
      · exact h rfl)
    go_enter Tryd.func14, Tryd.ntmps14
    go_wp2
    go_ret
    exact ⟨false, rfl, ⟨fun h => (by cases h), fun h => absurd h HN.out⟩, Below.refl _ _⟩
  have he := isEmpty_str_not s h0
  have HS0 : Hid (nb s ≠ []) := Lib.hid (fun h => h0 ((nb_nil_iff s).mp h))
  clear h0
  go_enter Tryd.func14, Tryd.ntmps14
  go_wp2_with fail
  with_reducible refine (cut_any s ⟨#[114, 101, 102, 115, 47]⟩ _ (by omega) (by decide)).mono ?_
  rintro e w' ⟨r, B, rfl, h1, h2, rfl⟩
  clear he
  cases B with
  | true =>
    have HR : Hid (nb s = refsL ++ nb r) := Lib.hid (h1 rfl).1
    have hrs := (h1 rfl).2
    clear h1 h2
    have HP : Hid (SafeP (nb s) ↔ ((∀ p ∈ parts (nb r), PGood p) ∧ 92 ∉ nb r)) := Lib.hid (by
      rw [HR.out]
      constructor
      · rintro (⟨r2, h, h3, h4⟩ | ⟨h, _⟩)
        · rw [← List.append_cancel_left h] at h3 h4; exact ⟨h3, h4⟩
        · exact absurd ⟨_, rfl⟩ h
      · rintro ⟨h3, h4⟩; exact .inl ⟨_, rfl, h3, h4⟩)
    clear HR
    by_cases hr0 : r.size = 0
    · have he := isEmpty_str r hr0
      have HN : Hid (¬ SafeP (nb s)) := Lib.hid (by
        rw [HP.out, (nb_nil_iff r).mpr hr0]
        rintro ⟨h, _⟩
        exact (h [] (by simp [parts])).1 rfl)
      go_wp2
      go_ret
      exact ⟨false, rfl, ⟨fun h => (by cases h), fun h => absurd h HN.out⟩, Below.refl _ _⟩
    · have he := isEmpty_str_not r hr0
      go_wp2_with fail
      with_reducible refine (zzContains_any r ⟨#[92]⟩ _ (by omega) (by decide)).mono ?_
      rintro e w2 ⟨B, rfl, hB, rfl⟩
      have hB2 : B = true ↔ 92 ∈ nb r := hB.trans (mem_has (nb r) 92).symm
      clear he hB
      cases B with
      | true =>
        have HN : Hid (¬ SafeP (nb s)) := Lib.hid (by rw [HP.out]; rintro ⟨_, h⟩; exact h (hB2.mp rfl))
        clear hB2
        go_wp2
        go_ret
        exact ⟨false, rfl, ⟨fun h => (by cases h), fun h => absurd h HN.out⟩, Below.refl _ _⟩
      | false =>
        have H92 : Hid (92 ∉ nb r) := Lib.hid (fun h => by have := hB2.mpr h; cases this)
        clear hB2
        go_wp2_with fail
        with_reducible refine (zzSplit_any r _ (by omega)).mono ?_
        rintro e w2 ⟨v, L, rfl, hown, hL, hLl, hb⟩
        obtain ⟨A, c, rfl, hLm, hst⟩ := hown.strs
        have HL := Lib.hid hL; have HST := Lib.hid hst; have HB := Lib.hid hb
        clear hown hL hst hb
        unfold maxLen at hLm
        go_wp2
        go_loop [7, 27] (fun p i => ∃ k : Nat, k ≤ L.length ∧ i = .int .i64 k ∧ ∀ j, j < k → PGood (nb (L.getD j ⟨#[]⟩))) (fun _ i => L.length - (intOf i).toNat)
        case atStart => exact ⟨0, Nat.zero_le _, rfl, fun j h => by omega⟩
        case round =>
          obtain ⟨k, hk, rfl, hall⟩ := hrel
          have HA := Lib.hid hall; clear hall
          by_cases hlt : k < L.length
          · have hlti : (k : Int) < L.length := by omega
            obtain ⟨b, off, rfl, _, hcell⟩ := HST.out.at k hlt
            have HIN := Lib.hid (part_of HL.out hlt)
            generalize hp : L.getD k ⟨#[]⟩ = p at hcell HIN
            have HPK := Lib.hid hp; clear hp
            by_cases hp0 : p.size = 0
            · have he := isEmpty_str p hp0
              have HN : Hid (¬ SafeP (nb s)) := Lib.hid (by rw [HP.out]; rintro ⟨h, _⟩; exact (h _ HIN.out).1 ((nb_nil_iff p).mpr hp0))
              go_wp2
              go_ret
              exact ⟨false, rfl, ⟨fun h => (by cases h), fun h => absurd h HN.out⟩, HB.out⟩
            · have he := isEmpty_str_not p hp0
              have hq1 := beq_str p [46]
              have hq2 := beq_str p [46, 46]
              cases hB1 : (nb p == ([46] : List UInt8).map UInt8.toNat) with
              | true =>
                rw [hB1] at hq1
                have HN : Hid (¬ SafeP (nb s)) := Lib.hid (by rw [HP.out]; rintro ⟨h, _⟩; exact (h _ HIN.out).2.1 (beq_iff_eq.mp hB1))
                clear hB1 hq2
                go_wp2
                go_ret
                exact ⟨false, rfl, ⟨fun h => (by cases h), fun h => absurd h HN.out⟩, HB.out⟩
              | false =>
                rw [hB1] at hq1
                cases hB2 : (nb p == ([46, 46] : List UInt8).map UInt8.toNat) with
                | true =>
                  rw [hB2] at hq2
                  have HN : Hid (¬ SafeP (nb s)) := Lib.hid (by rw [HP.out]; rintro ⟨h, _⟩; exact (h _ HIN.out).2.2 (beq_iff_eq.mp hB2))
                  clear hB1 hB2
                  go_wp2
                  go_ret
                  exact ⟨false, rfl, ⟨fun h => (by cases h), fun h => absurd h HN.out⟩, HB.out⟩
                | false =>
                  rw [hB2] at hq2
                  have HG : Hid (PGood (nb p)) := Lib.hid ⟨fun h => hp0 ((nb_nil_iff p).mp h), fun h => by rw [h] at hB1; exact absurd hB1 (by decide), fun h => by rw [h] at hB2; exact absurd hB2 (by decide)⟩
                  clear hB1 hB2
                  go_wp2
                  go_round
                  case rel =>
                    refine ⟨k + 1, by omega, by go_num, fun j hj => ?_⟩
                    by_cases e : j = k
                    · subst e; rw [HPK.out]; exact HG.out
                    · exact HA.out j (by omega)
                  case measure => simp [intOf]; omega
          · have hlti : (L.length : Int) ≤ k := by omega
            have HY : Hid (SafeP (nb s)) := Lib.hid (by rw [HP.out]; exact ⟨all_of HL.out (fun j hj => HA.out j (by omega)), H92.out⟩)
            go_wp2
            go_ret
            exact ⟨true, rfl, ⟨fun _ => HY.out, fun _ => rfl⟩, HB.out⟩
  | false =>
    have HNP : Hid (¬ Pre (nb s) refsL) := Lib.hid (h2 rfl)
    clear h1 h2
    go_wp2
    go_loop [8] (fun i => ∃ k : Nat, k ≤ s.size ∧ i = .int .i64 k ∧ ∀ j, j < k → capOk (bx s j)) (fun i => s.size - (intOf i).toNat)
    case atStart => exact ⟨0, Nat.zero_le _, rfl, fun j h => by omega⟩
    case round =>
      obtain ⟨k, hk, rfl, hall⟩ := hrel
      have HA := Lib.hid hall; clear hall
      by_cases hlt : k < s.size
      · have hlti : (k : Int) < s.size := by omega
        have hb := bx_get s k hlt
        have HM := Lib.hid (bx_mem hlt)
        generalize hcc : bx s k = c at hb HM
        have HC := Lib.hid hcc; clear hcc
        by_cases hok : capOk c
        · rcases hok with ⟨ha, hz⟩ | rfl
          · have i1 : (65 : Int) ≤ c := by omega
            have i2 : (c : Int) ≤ 90 := by omega
            go_wp2
            go_round
            case rel =>
              refine ⟨k + 1, by omega, by go_num, fun j hj => ?_⟩
              by_cases e : j = k
              · subst e; rw [HC.out]; exact .inl ⟨ha, hz⟩
              · exact HA.out j (by omega)
            case measure => simp [intOf]; omega
          · go_wp2
            go_round
            case rel =>
              refine ⟨k + 1, by omega, by go_num, fun j hj => ?_⟩
              by_cases e : j = k
              · subst e; rw [HC.out]; exact .inr rfl
              · exact HA.out j (by omega)
            case measure => simp [intOf]; omega
        · have HN : Hid (¬ SafeP (nb s)) := Lib.hid (by
            rintro (⟨r2, h, _⟩ | ⟨_, _, h⟩)
            · exact HNP.out ⟨r2, h⟩
            · exact hok (h c HM.out))
          have q : ((c : Int) != 95) = true := by
            have : c ≠ 95 := fun e => hok (.inr e)
            simp; omega
          have hor : (c : Int) < 65 ∨ (90 : Int) < c := by
            by_cases h65 : c < 65
            · exact .inl (by omega)
            · exact .inr (by have : ¬ (65 ≤ c ∧ c ≤ 90) := fun h => hok (.inl h); omega)
          clear hok
          rcases hor with hor | hor
          · go_wp2
            go_ret
            exact ⟨false, rfl, ⟨fun h => (by cases h), fun h => absurd h HN.out⟩, Below.refl _ _⟩
          · have i1 : (65 : Int) ≤ c := by omega
            go_wp2
            go_ret
            exact ⟨false, rfl, ⟨fun h => (by cases h), fun h => absurd h HN.out⟩, Below.refl _ _⟩
      · have hlti : (s.size : Int) ≤ k := by omega
        have HY : Hid (SafeP (nb s)) := Lib.hid (.inr ⟨HNP.out, HS0.out, caps_all (fun j hj => HA.out j (by omega))⟩)
        go_wp2
        go_ret
        exact ⟨true, rfl, ⟨fun _ => HY.out, fun _ => rfl⟩, Below.refl _ _⟩
end Go.Proofs.YtnhegjjegamdfaaDoor
