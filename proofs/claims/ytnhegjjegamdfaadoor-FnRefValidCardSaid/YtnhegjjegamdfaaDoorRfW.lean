/- spec: refHas, refBegins, refEnds, RefSafe. -/
import Derived.Test.YtnhegjjegamdfaaDoorRfV
namespace Go.Proofs.YtnhegjjegamdfaaDoor
open Go.RowKit
set_option linter.unusedSimpArgs false
set_option linter.unusedVariables false

set_option maxHeartbeats 400000 in
theorem refBegins_any (s p : ByteArray) (w : World) (hs : s.size ≤ 10000) (hp : p.size ≤ 10000) :
    Calls Tryd.prog 18 #[.string s, .string p] w (BoolPost (Pre (nb s) (nb p)) w) := by
  by_cases hle : p.size ≤ s.size
  · have hle' : (p.size : Int) ≤ s.size := by omega
    have hq := beq_str2 (s.extract 0 p.size) p
    have HQ := Lib.hid (pre_iff s p hle)
    have HB := Lib.hid (beq_iff_eq (a := nb (s.extract 0 p.size)) (b := nb p))
    generalize hB : (nb (s.extract 0 p.size) == nb p) = B at hq HB
    clear hB
    go_enter Tryd.func18, Tryd.ntmps18
    go_wp2
    go_ret
    exact ⟨B, rfl, HB.out.trans HQ.out.symm, rfl⟩
  · have hle' : (s.size : Int) < p.size := by omega
    go_enter Tryd.func18, Tryd.ntmps18
    go_wp2
    go_ret
    exact ⟨false, rfl, ⟨fun h => (by cases h), fun h => absurd (pre_le h) hle⟩, rfl⟩
set_option maxHeartbeats 400000 in
theorem refEnds_any (s p : ByteArray) (w : World) (hs : s.size ≤ 10000) (hp : p.size ≤ 10000) :
    Calls Tryd.prog 22 #[.string s, .string p] w (BoolPost (Suf (nb s) (nb p)) w) := by
  by_cases hle : p.size ≤ s.size
  · have hle' : (p.size : Int) ≤ s.size := by omega
    have hq := beq_str2 (s.extract (s.size - p.size) s.size) p
    have HQ := Lib.hid (suf_iff s p hle)
    have HB := Lib.hid (beq_iff_eq (a := nb (s.extract (s.size - p.size) s.size)) (b := nb p))
    generalize hB : (nb (s.extract (s.size - p.size) s.size) == nb p) = B at hq HB
    clear hB
    obtain ⟨d, hd⟩ : ∃ d, s.size - p.size = d := ⟨_, rfl⟩
    rw [hd] at hq
    have e1 : (s.size : Int) - p.size = (d : Int) := by omega
    have hds : d ≤ s.size := by omega
    clear hd
    go_enter Tryd.func22, Tryd.ntmps22
    go_wp2
    go_ret
    exact ⟨B, rfl, HB.out.trans HQ.out.symm, rfl⟩
  · have hle' : (s.size : Int) < p.size := by omega
    go_enter Tryd.func22, Tryd.ntmps22
    go_wp2
    go_ret
    exact ⟨false, rfl, ⟨fun h => (by cases h), fun h => absurd (suf_le h) hle⟩, rfl⟩
set_option maxHeartbeats 1000000 in
theorem refHas_any (s sub : ByteArray) (w : World) (hs : s.size ≤ 10000) (hb : sub.size ≤ 10000) :
    Calls Tryd.prog 20 #[.string s, .string sub] w (BoolPost (Has (nb s) (nb sub)) w) := by
  go_enter Tryd.func20, Tryd.ntmps20
  go_wp2
  go_loop [5] (fun i => ∃ k : Nat, i = .int .i64 k ∧ k ≤ s.size + 1 ∧ ∀ j, j < k → subAt s sub j = false) (fun i => s.size + 1 - (intOf i).toNat)
  case atStart => exact ⟨0, rfl, by omega, fun j h => by omega⟩
  case round =>
    obtain ⟨k, rfl, hk, hall⟩ := hrel
    have HA := Lib.hid hall; clear hall
    by_cases hlt : k + sub.size ≤ s.size
    · have hlti : (k : Int) + sub.size ≤ s.size := by omega
      have hq := beq_str2 (s.extract k (k + sub.size)) sub
      have hB : ∃ B, subAt s sub k = B ∧ (nb (s.extract k (k + sub.size)) == nb sub) = B := ⟨_, rfl, rfl⟩
      obtain ⟨B, hB1, hB2⟩ := hB
      rw [hB2] at hq
      have HB1 := Lib.hid hB1; clear hB1 hB2
      cases B with
      | true =>
        go_wp2
        go_ret
        exact ⟨true, rfl, ⟨fun _ => (has_iff s sub).mpr ⟨k, hlt, HB1.out⟩, fun _ => rfl⟩, rfl⟩
      | false =>
        go_wp2
        go_round
        case rel =>
          refine ⟨k + 1, by go_num, by omega, fun j hj => ?_⟩
          by_cases e : j = k
          · subst e; exact HB1.out
          · exact HA.out j (by omega)
        case measure => simp [intOf] <;> omega
    · have hlti : (s.size : Int) < (k : Int) + sub.size := by omega
      have HN : Hid (¬ Has (nb s) (nb sub)) := Lib.hid (fun h => by
        obtain ⟨i, h1, h2⟩ := (has_iff s sub).mp h
        rw [HA.out i (by omega)] at h2
        cases h2)
      go_wp2
      go_ret
      exact ⟨false, rfl, ⟨fun h => (by cases h), fun h => absurd h HN.out⟩, rfl⟩

set_option maxRecDepth 100000 in
set_option maxHeartbeats 2000000 in
theorem RefSafe_any (s : ByteArray) (w : World) (hs : s.size ≤ 1000) :
    Calls Tryd.prog 6 #[.string s] w (BelowPost (SafeP (nb s)) w) := by
  go_enter Tryd.func6, Tryd.ntmps6
  go_wp2_with fail
  with_reducible refine (refBegins_any s ⟨#[114, 101, 102, 115, 47]⟩ _ (by omega) (by decide)).mono ?_
  rintro e w' ⟨B, rfl, hB, rfl⟩
  cases B with
  | true =>
    have hpre : Pre (nb s) refsL := hB.mp rfl
    have h5 : 5 ≤ s.size := pre_le (p := ⟨#[114, 101, 102, 115, 47]⟩) hpre
    obtain ⟨r, hr⟩ : ∃ r, r = s.extract 5 s.size := ⟨_, rfl⟩
    have HR : Hid (nb s = refsL ++ nb r) := Lib.hid (by
      obtain ⟨b, hb⟩ := hpre
      rw [hr, nb_tail, hb]
      rfl)
    have hrs : r.size ≤ s.size := by rw [hr]; exact extract_le _ _ _ _ (Nat.le_refl _)
    have HP : Hid (SafeP (nb s) ↔ ((∀ p ∈ parts (nb r), PGood p) ∧ 92 ∉ nb s)) := Lib.hid (by
      have h92 : 92 ∉ nb s ↔ 92 ∉ nb r := by rw [HR.out]; simp [refsL]
      rw [h92, HR.out]
      constructor
      · rintro (⟨r2, h, h3, h4⟩ | ⟨h, _⟩)
        · rw [← List.append_cancel_left h] at h3 h4; exact ⟨h3, h4⟩
        · exact absurd ⟨_, rfl⟩ h
      · rintro ⟨h3, h4⟩; exact .inl ⟨_, rfl, h3, h4⟩)
    have h5i : (5 : Int) ≤ s.size := by omega
    clear hB hpre HR
    go_wp2_with fail
    rw [← hr]
    clear hr
    with_reducible refine (refParts_any r _ (by omega)).mono ?_
    rintro e w2 ⟨v, L, rfl, hown, hL, hLl, hb⟩
    obtain ⟨A, c, rfl, hLm, hst⟩ := hown.strs
    have HL := Lib.hid hL; have HST := Lib.hid hst; have HB := Lib.hid hb
    clear hown hL hst hb
    unfold maxLen at hLm
    go_wp2
    go_loop [4, 13] (fun p i => ∃ k : Nat, k ≤ L.length ∧ i = .int .i64 k ∧ ∀ j, j < k → PGood (nb (L.getD j ⟨#[]⟩))) (fun _ i => L.length - (intOf i).toNat)
    case atStart => exact ⟨0, Nat.zero_le _, rfl, fun j h => by omega⟩
    case round =>
      obtain ⟨k, hk, rfl, hall⟩ := hrel
      have HA := Lib.hid hall; clear hall
      by_cases hlt : k < L.length
      · have hlti : (k : Int) < L.length := by omega
        obtain ⟨b, off, rfl, _, hcell⟩ := HST.out.at k hlt
        have HIN := Lib.hid (part_of HL.out hlt)
        generalize hp : L.getD k ⟨#[]⟩ = p at hcell HIN
        have HPK := Lib.hid hp; clear hp
        by_cases hp0 : p.size = 0
        · have he := isEmpty_str p hp0
          have HN : Hid (¬ SafeP (nb s)) := Lib.hid (by rw [HP.out]; rintro ⟨h, _⟩; exact (h _ HIN.out).1 ((nb_nil_iff p).mpr hp0))
          go_wp2
          go_ret
          exact ⟨false, rfl, ⟨fun h => (by cases h), fun h => absurd h HN.out⟩, HB.out⟩
        · have he := isEmpty_str_not p hp0
          have hq1 := beq_str p [46]
          have hq2 := beq_str p [46, 46]
          cases hB1 : (nb p == ([46] : List UInt8).map UInt8.toNat) with
          | true =>
            rw [hB1] at hq1
            have HN : Hid (¬ SafeP (nb s)) := Lib.hid (by rw [HP.out]; rintro ⟨h, _⟩; exact (h _ HIN.out).2.1 (beq_iff_eq.mp hB1))
            clear hB1 hq2
            go_wp2
            go_ret
            exact ⟨false, rfl, ⟨fun h => (by cases h), fun h => absurd h HN.out⟩, HB.out⟩
          | false =>
            rw [hB1] at hq1
            cases hB2 : (nb p == ([46, 46] : List UInt8).map UInt8.toNat) with
            | true =>
              rw [hB2] at hq2
              have HN : Hid (¬ SafeP (nb s)) := Lib.hid (by rw [HP.out]; rintro ⟨h, _⟩; exact (h _ HIN.out).2.2 (beq_iff_eq.mp hB2))
              clear hB1 hB2
              go_wp2
              go_ret
              exact ⟨false, rfl, ⟨fun h => (by cases h), fun h => absurd h HN.out⟩, HB.out⟩
            | false =>
              rw [hB2] at hq2
              have HG : Hid (PGood (nb p)) := Lib.hid ⟨fun h => hp0 ((nb_nil_iff p).mp h), fun h => by rw [h] at hB1; exact absurd hB1 (by decide), fun h => by rw [h] at hB2; exact absurd hB2 (by decide)⟩
              clear hB1 hB2
              go_wp2
              go_round
              case rel =>
                refine ⟨k + 1, by omega, by go_num, fun j hj => ?_⟩
                by_cases e : j = k
                · subst e; rw [HPK.out]; exact HG.out
                · exact HA.out j (by omega)
              case measure => simp [intOf]; omega
      · have hlti : (L.length : Int) ≤ k := by omega
        have HY := Lib.hid (all_of (Q := PGood) HL.out (fun j hj => HA.out j (by omega)))
        go_wp2_with fail
        with_reducible refine (refHas_any s ⟨#[92]⟩ _ (by omega) (by decide)).mono ?_
        rintro e w3 ⟨B, rfl, hB, rfl⟩
        have hB2 : B = true ↔ 92 ∈ nb s := hB.trans (mem_has (nb s) 92).symm
        have HB2 := Lib.hid hB2
        clear hB hB2
        go_wp2
        go_ret
        refine ⟨!B, rfl, ?_, HB.out⟩
        rw [HP.out]
        constructor
        · intro h; exact ⟨HY.out, fun hm => by rw [HB2.out.mpr hm] at h; cases h⟩
        · rintro ⟨_, h⟩
          cases B with
          | true => exact absurd (HB2.out.mp rfl) h
          | false => rfl
  | false =>
    have HNP : Hid (¬ Pre (nb s) refsL) := Lib.hid (fun h => by have := hB.mpr h; cases this)
    clear hB
    go_wp2
    go_loop [5, 6, 33] (fun _ _ i => ∃ k : Nat, k ≤ s.size ∧ i = .int .i64 k ∧ ∀ j, j < k → capOk (bx s j)) (fun _ _ i => s.size - (intOf i).toNat)
    case atStart => exact ⟨0, Nat.zero_le _, rfl, fun j h => by omega⟩
    case round =>
      obtain ⟨k, hk, rfl, hall⟩ := hrel
      have HA := Lib.hid hall; clear hall
      by_cases hlt : k < s.size
      · have hlti : (k : Int) < s.size := by omega
        have hb := bx_get s k hlt
        have HM := Lib.hid (bx_mem hlt)
        generalize hcc : bx s k = c at hb HM
        have HC := Lib.hid hcc; clear hcc
        by_cases hok : capOk c
        · rcases hok with ⟨ha, hz⟩ | rfl
          · have i1 : (65 : Int) ≤ c := by omega
            have i2 : (c : Int) ≤ 90 := by omega
            go_wp2
            go_round
            case rel =>
              refine ⟨k + 1, by omega, by go_num, fun j hj => ?_⟩
              by_cases e : j = k
              · subst e; rw [HC.out]; exact .inl ⟨ha, hz⟩
              · exact HA.out j (by omega)
            case measure => simp [intOf]; omega
          · go_wp2
            go_round
            case rel =>
              refine ⟨k + 1, by omega, by go_num, fun j hj => ?_⟩
              by_cases e : j = k
              · subst e; rw [HC.out]; exact .inr rfl
              · exact HA.out j (by omega)
            case measure => simp [intOf]; omega
        · have HN : Hid (¬ SafeP (nb s)) := Lib.hid (by
            rintro (⟨r2, h, _⟩ | ⟨_, _, h⟩)
            · exact HNP.out ⟨r2, h⟩
            · exact hok (h c HM.out))
          have q : ((c : Int) != 95) = true := by
            have : c ≠ 95 := fun e => hok (.inr e)
            simp; omega
          have hor : (c : Int) < 65 ∨ (90 : Int) < c := by
            by_cases h65 : c < 65
            · exact .inl (by omega)
            · exact .inr (by have : ¬ (65 ≤ c ∧ c ≤ 90) := fun h => hok (.inl h); omega)
          clear hok
          rcases hor with hor | hor
          · go_wp2
            go_ret
            exact ⟨false, rfl, ⟨fun h => (by cases h), fun h => absurd h HN.out⟩, Below.refl _ _⟩
          · have i1 : (65 : Int) ≤ c := by omega
            go_wp2
            go_ret
            exact ⟨false, rfl, ⟨fun h => (by cases h), fun h => absurd h HN.out⟩, Below.refl _ _⟩
      · have hlti : (s.size : Int) ≤ k := by omega
        by_cases h0 : s.size = 0
        · have he := isEmpty_str s h0
          have HN : Hid (¬ SafeP (nb s)) := Lib.hid (by
            rintro (⟨r, h, _⟩ | ⟨_, h, _⟩)
            · exact HNP.out ⟨r, h⟩
            · exact h ((nb_nil_iff s).mpr h0))
          go_wp2
          go_ret
          exact ⟨false, rfl, ⟨fun h => (by cases h), fun h => absurd h HN.out⟩, Below.refl _ _⟩
        · have he := isEmpty_str_not s h0
          have HY : Hid (SafeP (nb s)) := Lib.hid (.inr ⟨HNP.out, fun h => h0 ((nb_nil_iff s).mp h), caps_all (fun j hj => HA.out j (by omega))⟩)
          go_wp2
          go_ret
          exact ⟨true, rfl, ⟨fun _ => HY.out, fun _ => rfl⟩, Below.refl _ _⟩
end Go.Proofs.YtnhegjjegamdfaaDoor
