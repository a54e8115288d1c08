/- spec.RefAt, spec.RefValid. -/
import Derived.Test.YtnhegjjegamdfaaDoorRfW
import Derived.Test.YtnhegjjegamdfaaDoorRfX
namespace Go.Proofs.YtnhegjjegamdfaaDoor
open Go.RowKit
set_option linter.unusedSimpArgs false
set_option linter.unusedVariables false

def AtP (l : List Nat) : Prop := ∃ p ∈ parts l, p = [64]
set_option maxRecDepth 100000 in
set_option maxHeartbeats 2000000 in
theorem RefAt_any (s : ByteArray) (w : World) (hs : s.size ≤ 1000) :
    Calls Tryd.prog 8 #[.string s] w (BelowPost (AtP (nb s)) w) := by
  go_enter Tryd.func8, Tryd.ntmps8
  go_wp2_with fail
  with_reducible refine (refParts_any s _ (by omega)).mono ?_
  rintro e w2 ⟨v, L, rfl, hown, hL, hLl, hb⟩
  obtain ⟨A, c, rfl, hLm, hst⟩ := hown.strs
  have HL := Lib.hid hL; have HST := Lib.hid hst; have HB := Lib.hid hb
  clear hown hL hst hb
  unfold maxLen at hLm
  go_wp2
  go_loop [4, 8] (fun _ i => ∃ k : Nat, k ≤ L.length ∧ i = .int .i64 k ∧ ∀ j, j < k → nb (L.getD j ⟨#[]⟩) ≠ [64]) (fun _ i => L.length - (intOf i).toNat)
  case atStart => exact ⟨0, Nat.zero_le _, rfl, fun j h => by omega⟩
  case round =>
    obtain ⟨k, hk, rfl, hall⟩ := hrel
    have HA := Lib.hid hall; clear hall
    by_cases hlt : k < L.length
    · have hlti : (k : Int) < L.length := by omega
      obtain ⟨b, off, rfl, _, hcell⟩ := HST.out.at k hlt
      have HIN := Lib.hid (part_of HL.out hlt)
      generalize hp : L.getD k ⟨#[]⟩ = p at hcell HIN
      have HPK := Lib.hid hp; clear hp
      have hq1 := beq_str p [64]
      cases hB1 : (nb p == ([64] : List UInt8).map UInt8.toNat) with
      | true =>
        rw [hB1] at hq1
        have HY : Hid (AtP (nb s)) := Lib.hid ⟨_, HIN.out, beq_iff_eq.mp hB1⟩
        clear hB1
        go_wp2
        go_ret
        exact ⟨true, rfl, ⟨fun _ => HY.out, fun _ => rfl⟩, HB.out⟩
      | false =>
        rw [hB1] at hq1
        have HG : Hid (nb p ≠ [64]) := Lib.hid (fun h => by rw [h] at hB1; exact absurd hB1 (by decide))
        clear hB1
        go_wp2
        go_round
        case rel =>
          refine ⟨k + 1, by omega, by go_num, fun j hj => ?_⟩
          by_cases e : j = k
          · subst e; rw [HPK.out]; exact HG.out
          · exact HA.out j (by omega)
        case measure => simp [intOf]; omega
    · have hlti : (L.length : Int) ≤ k := by omega
      have HN : Hid (¬ AtP (nb s)) := Lib.hid (by
        rintro ⟨p, hp, h⟩
        exact all_of (Q := fun p => p ≠ [64]) HL.out (fun j hj => HA.out j (by omega)) p hp h)
      go_wp2
      go_ret
      exact ⟨false, rfl, ⟨fun h => (by cases h), fun h => absurd h HN.out⟩, HB.out⟩

theorem pre_one {p : ByteArray} (h : p.size ≠ 0) (c : Nat) : Pre (nb p) [c] ↔ bx p 0 = c := by
  constructor
  · rintro ⟨b, e⟩; unfold bx; rw [e]; rfl
  · intro e
    refine ⟨(nb p).drop 1, ?_⟩
    have h0 : 0 < (nb p).length := by rw [nb_length]; omega
    conv => lhs; rw [← List.drop_zero (l := nb p)]
    rw [List.drop_eq_getElem_cons h0, bx_getElem, e]; rfl
theorem one_byte {s : ByteArray} {k : Nat} (h : k < s.size) : nb (s.extract k (k + 1)) = [bx s k] := by
  rw [nb_extract, show k + 1 - k = 0 + 1 by omega, List.drop_eq_getElem_cons (by rw [nb_length]; exact h), bx_getElem]; rfl
def SPart (p : List Nat) : Prop := p ≠ [] ∧ ¬ Pre p [46] ∧ ¬ Suf p lockL
def SChar (c : Nat) : Prop := ¬ (c < 32 ∨ c = 127 ∨ c ∈ badL)

set_option maxRecDepth 100000 in
set_option maxHeartbeats 4000000 in
theorem RefValid_any (s : ByteArray) (w : World) (hs : s.size ≤ 1000) :
    Calls Tryd.prog 9 #[.string s] w (BelowPost (ValidS (nb s)) w) := by
  go_enter Tryd.func9, Tryd.ntmps9
  go_wp2_with fail
  with_reducible refine (refParts_any s _ (by omega)).mono ?_
  rintro e w2 ⟨v, L, rfl, hown, hL, hLl, hb⟩
  obtain ⟨A, c, rfl, hLm, hst⟩ := hown.strs
  have HL := Lib.hid hL; have HST := Lib.hid hst; have HB := Lib.hid hb
  have HLEN : Hid ((parts (nb s)).length = L.length) := Lib.hid (by rw [← hL, List.length_map])
  clear hown hL hst hb
  unfold maxLen at hLm
  go_wp2
  go_loop [5, 12] (fun _ i => ∃ k : Nat, k ≤ L.length ∧ i = .int .i64 k ∧ ∀ j, j < k → SPart (nb (L.getD j ⟨#[]⟩))) (fun _ i => L.length - (intOf i).toNat)
  case atStart => exact ⟨0, Nat.zero_le _, rfl, fun j h => by omega⟩
  case round =>
    obtain ⟨k, hk, rfl, hall⟩ := hrel
    have HA := Lib.hid hall; clear hall
    by_cases hlt : k < L.length
    · have hlti : (k : Int) < L.length := by omega
      obtain ⟨b, off, rfl, _, hcell⟩ := HST.out.at k hlt
      have HIN := Lib.hid (part_of HL.out hlt)
      have HIX := Lib.hid (part_at HL.out hlt)
      generalize hp : L.getD k ⟨#[]⟩ = p at hcell HIN HIX
      have HPK := Lib.hid hp; clear hp
      have hpz : p.size ≤ 1000 := by
        have hm := part_len HIX.out
        rw [nb_length] at hm
        omega
      by_cases hp0 : p.size = 0
      · have he := isEmpty_str p hp0
        have HN : Hid (¬ ValidS (nb s)) := Lib.hid (by rintro ⟨h, _⟩; exact (h _ HIN.out).1 ((nb_nil_iff p).mpr hp0))
        go_wp2
        go_ret
        exact ⟨false, rfl, ⟨fun h => (by cases h), fun h => absurd h HN.out⟩, HB.out⟩
      have he := isEmpty_str_not p hp0
      have hp1 : 0 < p.size := by omega
      have hp1i : (0 : Int) < p.size := by omega
      have hb0 := bx_get p 0 hp1
      have HPRE := Lib.hid (pre_one hp0 46)
      have H0 : Hid (nb p ≠ []) := Lib.hid (fun h => hp0 ((nb_nil_iff p).mp h))
      clear hp0
      by_cases h46 : bx p 0 = 46
      · rw [h46] at hb0
        have HN : Hid (¬ ValidS (nb s)) := Lib.hid (by rintro ⟨h, _⟩; exact (h _ HIN.out).2.1 (HPRE.out.mpr h46))
        clear h46
        go_wp2
        go_ret
        exact ⟨false, rfl, ⟨fun h => (by cases h), fun h => absurd h HN.out⟩, HB.out⟩
      have H46 : Hid (¬ Pre (nb p) [46]) := Lib.hid (fun h => h46 (HPRE.out.mp h))
      have q46 : ((bx p 0 : Int) == 46) = false := beq_eq_false_iff_ne.mpr (by omega)
      generalize bx p 0 = c0 at hb0 q46
      clear h46 HPRE
      go_wp2_with fail
      with_reducible refine (refEnds_any p ⟨#[46, 108, 111, 99, 107]⟩ _ (by omega) (by decide)).mono ?_
      rintro e w3 ⟨B, rfl, hB, rfl⟩
      have HBL : Hid (B = true ↔ Suf (nb p) lockL) := Lib.hid hB
      clear hB he
      cases B with
      | true =>
        have HN : Hid (¬ ValidS (nb s)) := Lib.hid (by rintro ⟨h, _⟩; exact (h _ HIN.out).2.2 (HBL.out.mp rfl))
        go_wp2
        go_ret
        exact ⟨false, rfl, ⟨fun h => (by cases h), fun h => absurd h HN.out⟩, HB.out⟩
      | false =>
        have HG : Hid (SPart (nb p)) := Lib.hid ⟨H0.out, H46.out, fun h => by have := HBL.out.mpr h; cases this⟩
        go_wp2
        go_round
        case rel =>
          refine ⟨k + 1, by omega, by go_num, fun j hj => ?_⟩
          by_cases e : j = k
          · subst e; rw [HPK.out]; exact HG.out
          · exact HA.out j (by omega)
        case measure => simp [intOf]; omega
    · have hlti : (L.length : Int) ≤ k := by omega
      have HALL := Lib.hid (all_of (Q := SPart) HL.out (fun j hj => HA.out j (by omega)))
      clear HA
      by_cases h2 : L.length < 2
      · have h2i : (L.length : Int) < 2 := by omega
        have HN : Hid (¬ ValidS (nb s)) := Lib.hid (by rintro ⟨_, h, _⟩; rw [HLEN.out] at h; omega)
        go_wp2
        go_ret
        exact ⟨false, rfl, ⟨fun h => (by cases h), fun h => absurd h HN.out⟩, HB.out⟩
      have h2i : (2 : Int) ≤ L.length := by omega
      go_wp2_with fail
      with_reducible refine (refHas_any s ⟨#[46, 46]⟩ _ (by omega) (by decide)).mono ?_
      rintro e w3 ⟨T1, rfl, hT, rfl⟩
      have HT1 : Hid (T1 = true ↔ Has (nb s) [46, 46]) := Lib.hid hT
      clear hT
      cases T1 with
      | true =>
        have HN : Hid (¬ ValidS (nb s)) := Lib.hid (fun h => h.2.2.1 (HT1.out.mp rfl))
        go_wp2
        go_ret
        exact ⟨false, rfl, ⟨fun h => (by cases h), fun h => absurd h HN.out⟩, HB.out⟩
      | false =>
      go_wp2_with fail
      with_reducible refine (refEnds_any s ⟨#[46]⟩ _ (by omega) (by decide)).mono ?_
      rintro e w3 ⟨T2, rfl, hT, rfl⟩
      have HT2 : Hid (T2 = true ↔ Suf (nb s) [46]) := Lib.hid hT
      clear hT
      cases T2 with
      | true =>
        have HN : Hid (¬ ValidS (nb s)) := Lib.hid (fun h => h.2.2.2.1 (HT2.out.mp rfl))
        go_wp2
        go_ret
        exact ⟨false, rfl, ⟨fun h => (by cases h), fun h => absurd h HN.out⟩, HB.out⟩
      | false =>
      go_wp2_with fail
      with_reducible refine (refHas_any s ⟨#[64, 123]⟩ _ (by omega) (by decide)).mono ?_
      rintro e w3 ⟨T3, rfl, hT, rfl⟩
      have HT3 : Hid (T3 = true ↔ Has (nb s) [64, 123]) := Lib.hid hT
      clear hT
      cases T3 with
      | true =>
        have HN : Hid (¬ ValidS (nb s)) := Lib.hid (fun h => h.2.2.2.2.1 (HT3.out.mp rfl))
        go_wp2
        go_ret
        exact ⟨false, rfl, ⟨fun h => (by cases h), fun h => absurd h HN.out⟩, HB.out⟩
      | false =>
      have hq := beq_str s [64]
      cases hB : (nb s == ([64] : List UInt8).map UInt8.toNat) with
      | true =>
        rw [hB] at hq
        have HN : Hid (¬ ValidS (nb s)) := Lib.hid (fun h => h.2.2.2.2.2.1 (beq_iff_eq.mp hB))
        clear hB
        go_wp2
        go_ret
        exact ⟨false, rfl, ⟨fun h => (by cases h), fun h => absurd h HN.out⟩, HB.out⟩
      | false =>
      rw [hB] at hq
      have H64 : Hid (nb s ≠ [64]) := Lib.hid (fun h => by rw [h] at hB; exact absurd hB (by decide))
      clear hB
      go_wp2
      clear hq
      go_loop [6, 7, 49] (fun _ _ i => ∃ k : Nat, k ≤ s.size ∧ i = .int .i64 k ∧ ∀ j, j < k → SChar (bx s j)) (fun _ _ i => s.size - (intOf i).toNat)
      case atStart => exact ⟨0, Nat.zero_le _, rfl, fun j h => by omega⟩
      case round =>
        obtain ⟨m, hm, rfl, hall⟩ := hrel
        have HC := Lib.hid hall; clear hall
        by_cases hlm : m < s.size
        · have hlmi : (m : Int) < s.size := by omega
          have hlmj : (m : Int) + 1 ≤ s.size := by omega
          have hb := bx_get s m hlm
          have HM := Lib.hid (bx_mem hlm)
          have HO := Lib.hid (one_byte hlm)
          generalize hcc : bx s m = c at hb HM HO
          have HCC := Lib.hid hcc; clear hcc
          by_cases h32 : (c : Int) < 32
          · have HN : Hid (¬ ValidS (nb s)) := Lib.hid (fun h => h.2.2.2.2.2.2 c HM.out (.inl (by omega)))
            go_wp2
            go_ret
            exact ⟨false, rfl, ⟨fun h => (by cases h), fun h => absurd h HN.out⟩, HB.out⟩
          have h32i : (32 : Int) ≤ c := by omega
          by_cases h127 : c = 127
          · have q : ((c : Int) == 127) = true := beq_iff_eq.mpr (by omega)
            have HN : Hid (¬ ValidS (nb s)) := Lib.hid (fun h => h.2.2.2.2.2.2 c HM.out (.inr (.inl h127)))
            clear h32
            go_wp2
            go_ret
            exact ⟨false, rfl, ⟨fun h => (by cases h), fun h => absurd h HN.out⟩, HB.out⟩
          have q : ((c : Int) == 127) = false := beq_eq_false_iff_ne.mpr (by omega)
          have hez : (s.extract m (m + 1)).size ≤ 10000 := by rw [ByteArray.size_extract]; omega
          have HEZ := Lib.hid hez; clear hez
          clear h32
          go_wp2_with fail
          with_reducible refine (refHas_any ⟨#[32, 126, 94, 58, 63, 42, 91, 92]⟩ (s.extract m (m + 1)) _ (by decide) HEZ.out).mono ?_
          rintro e w3 ⟨T, rfl, hT, rfl⟩
          have HT : Hid (T = true ↔ c ∈ badL) := Lib.hid (by rw [hT, HO.out]; exact (mem_has badL c).symm)
          clear hT
          cases T with
          | true =>
            have HN : Hid (¬ ValidS (nb s)) := Lib.hid (fun h => h.2.2.2.2.2.2 c HM.out (.inr (.inr (HT.out.mp rfl))))
            go_wp2
            go_ret
            exact ⟨false, rfl, ⟨fun h => (by cases h), fun h => absurd h HN.out⟩, HB.out⟩
          | false =>
            have HG : Hid (SChar c) := Lib.hid (fun h => by
              rcases h with h | h | h
              · omega
              · exact h127 h
              · have := HT.out.mpr h; cases this)
            go_wp2
            go_round
            case rel =>
              refine ⟨m + 1, by omega, by go_num, fun j hj => ?_⟩
              by_cases e : j = m
              · subst e; rw [HCC.out]; exact HG.out
              · exact HC.out j (by omega)
            case measure => simp [intOf]; omega
        · have hlmi : (s.size : Int) ≤ m := by omega
          have HCH : Hid (∀ c ∈ nb s, SChar c) := Lib.hid (fun c hc => by
            obtain ⟨j, hj, rfl⟩ := List.mem_iff_getElem.mp hc
            rw [bx_getElem]
            rw [nb_length] at hj
            exact HC.out j (by omega))
          have HY : Hid (ValidS (nb s)) := Lib.hid ⟨HALL.out, (by rw [HLEN.out]; omega), fun h => (by have := HT1.out.mpr h; cases this), fun h => (by have := HT2.out.mpr h; cases this), fun h => (by have := HT3.out.mpr h; cases this), H64.out, HCH.out⟩
          go_wp2
          go_ret
          exact ⟨true, rfl, ⟨fun _ => HY.out, fun _ => rfl⟩, HB.out⟩
end Go.Proofs.YtnhegjjegamdfaaDoor
