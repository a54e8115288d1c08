/- FnAttrAll: the walk. -/
import Derived.Test.YteipeagdflcjjaaDoorQAmV
import Derived.Test.YteipeagdflcjjaaDoorQAmZ
import Derived.Test.YteipeagdflcjjaaDoorQAmU
import Derived.Test.YteipeagdflcjjaaDoorQPartD
import Derived.BigQuiet
namespace Go.Proofs.YteipeagdflcjjaaDoor.Am
open Go.RowKit
set_option linter.unusedSimpArgs false
set_option linter.unusedVariables false

theorem out_cells {w : World} {B : Nat} {v : Value} {l : List AttrT} (h : OutAt w B v l) (hl : 0 < l.length) : ∃ g c, v = .slice (some ⟨g, 0, none⟩) l.length c ∧ g < w.heap.size ∧ ∀ i, i < l.length → ∀ t, t < 3 → w.cell? ⟨g, i * 3 + t, none⟩ = (out3 (l.getD i zA))[t]? := by
  rcases h.2 with ⟨_, h0⟩ | ⟨g, cap, cur, rfl, _, hg, _⟩
  · omega
  · refine ⟨g, cap, rfl, (Array.getElem?_eq_some_iff.1 hg).1, fun i hi t ht => ?_⟩
    have hlt : t < (out3 (l.getD i zA)).length := ht
    have h1 : (l.flatMap out3)[i * 3 + t]? = some (out3 (l.getD i zA))[t] := by rw [flat_out _ _ _ hi ht, List.getElem?_eq_getElem hlt]
    have hc := h.cells (g := g) rfl (i * 3 + t) _ h1
    have hadd : (⟨g, 0, none⟩ : Addr).add (i * 3 + t) = ⟨g, i * 3 + t, none⟩ := by unfold Addr.add; split <;> simp_all
    rw [hadd] at hc
    rw [hc, List.getElem?_eq_getElem hlt]
theorem out_nil {w : World} {B : Nat} {v : Value} (h : OutAt w B v []) : ∃ A c, v = .slice A 0 c := by
  rcases h.2 with ⟨h, _⟩ | ⟨g, cap, cur, h, _⟩
  · exact ⟨none, 0, h⟩
  · exact ⟨_, cap, h⟩
/-- The names told are the names in order; each row is its line's. -/
theorem told_names {n : Nat} {g : Nat → AttrT} {l : List AttrT} {L : List ByteArray} (hl : ∀ a, a ∈ l ↔ true = true ∧ ∃ j, j < n ∧ readOf (g j) = a) (hs : SortedBy (fun a : AttrT => a.1) l) (hL : SortedBy (fun s : ByteArray => s) L) (hm : ∀ s, s ∈ L ↔ ∃ j, j < n ∧ (g j).1 = s) :
    l.map (fun a => a.1) = L := by
  refine sorted_eq (f := fun s : ByteArray => s) (List.pairwise_map.mpr hs) hL fun s => ?_
  rw [List.mem_map, hm]
  constructor
  · rintro ⟨a, ha, rfl⟩
    obtain ⟨_, j, hj, e⟩ := (hl a).mp ha
    exact ⟨j, hj, by rw [← e]; rfl⟩
  · rintro ⟨j, hj, e⟩
    exact ⟨readOf (g j), (hl _).mpr ⟨rfl, j, hj, rfl⟩, e⟩
theorem told_row {n : Nat} {g : Nat → AttrT} {l : List AttrT} {L : List ByteArray} (hl : ∀ a, a ∈ l ↔ true = true ∧ ∃ j, j < n ∧ readOf (g j) = a) (hd : ∀ i j, j < i → i < n → (g i).1 ≠ (g j).1) (he : l.map (fun a => a.1) = L) (i j : Nat) (hi : i < L.length) (hj : j < n) (hn : (g j).1 = L.getD i ⟨#[]⟩) :
    l.getD i zA = readOf (g j) := by
  have hil : i < l.length := by rw [← he, List.length_map] at hi; exact hi
  have h1 : L.getD i ⟨#[]⟩ = (l.getD i zA).1 := by
    rw [← he, List.getD_eq_getElem?_getD, List.getD_eq_getElem?_getD, List.getElem?_map, List.getElem?_eq_getElem hil]; rfl
  have hmem : l.getD i zA ∈ l := by rw [List.getD_eq_getElem?_getD, List.getElem?_eq_getElem hil]; exact List.getElem_mem _
  obtain ⟨_, j', hj', e⟩ := (hl _).mp hmem
  rw [← e] at h1 ⊢
  have h2 : (g j').1 = (g j).1 := by rw [hn, h1]; rfl
  by_cases e2 : j' = j
  · rw [e2]
  · rcases Nat.lt_or_gt_of_ne e2 with h | h
    · exact absurd h2.symm (hd j j' h hj)
    · exact absurd h2 (hd j' j h hj')

set_option maxRecDepth 100000 in
set_option maxHeartbeats 8000000 in
theorem lawAtAll_any (nm : ByteArray) (A1 A2 : Option Addr) (n1 c1 n2 c2 : Nat) (g1 : Nat → AttrT) (f2 : Nat → ByteArray) (ea : Addr) (msg : ByteArray) (w : World)
    (m0 : nm.size ≤ maxLen) (m1 : n1 ≤ c1) (m1c : c1 ≤ maxLen) (h1 : GAs w A1 n1 g1) (m2 : n2 ≤ maxLen) (h2 : Strs w A2 n2 f2) (hE : ErrAt w 6 ea msg) :
    Calls Tryd.prog 6 #[.string nm, .slice A1 n1 c1, .slice A2 n2 c2] w (TrueBelow w) := by
  have H1 := Lib.hid h1; have H2 := Lib.hid h2; have HE := Lib.hid hE
  clear h1 h2 hE
  unfold maxLen at m0
  go_enter Tryd.func6, Tryd.ntmps6
  go_upto_region 1 with (fail)
  go_cut [31] (fun v wx => ∃ B : Bool, v = .bool B ∧ (B = false → nm.size ≤ 2147483647 ∧ F29 n1 g1 ∧ (n2 ≤ 2147483647 ∧ ∀ i, i < n2 → (f2 i).size ≤ 2147483647)) ∧ Below w.heap.size w wx)
  case first =>
    by_cases hs : nm.size ≤ 2147483647
    · have hs' : ¬ (2147483647 : Int) < nm.size := by omega
      go_wp2_with fail
      with_reducible refine (fits29_any _ _ _ g1 _ (Nat.le_trans m1 m1c) H1.out).mono ?_
      rintro e w2 ⟨r2, rfl, hr2, hb⟩
      have HR2 := Lib.hid hr2; have HB2 := Lib.hid hb; clear hr2 hb
      cases r2 with
      | false =>
        go_wp2
        go_meet
        case rel => exact ⟨true, rfl, fun h => (by cases h), HB2.out⟩
      | true =>
        go_wp2_with fail
        with_reducible refine (fits3_any _ _ _ f2 _ m2 (H2.out.below HB2.out)).mono ?_
        rintro e w3 ⟨r3, rfl, hr3, rfl⟩
        have HR3 := Lib.hid hr3; clear hr3
        cases r3 with
        | false =>
          go_wp2
          go_meet
          case rel => exact ⟨true, rfl, fun h => (by cases h), HB2.out⟩
        | true =>
          go_wp2
          go_meet
          case rel => exact ⟨false, rfl, fun _ => ⟨hs, (by first | exact HR2.out rfl | exact HR2.out trivial), (by first | exact HR3.out rfl | exact HR3.out trivial)⟩, HB2.out⟩
    · have hs' : (2147483647 : Int) < nm.size := by omega
      go_wp2
      go_meet
      case rel => exact ⟨true, rfl, fun h => (by cases h), Below.refl _ _⟩
  case rest =>
    obtain ⟨B, rfl, hB, hb⟩ := hcut
    have B1 := Lib.hid hb; clear hb
    cases B with
    | true =>
      clear hB
      go_wp2
      go_ret
      exact ⟨rfl, B1.out⟩
    | false =>
      obtain ⟨s0, ⟨s1, hs1⟩, ⟨s2, hs2⟩⟩ := hB rfl
      have HS1 := Lib.hid hs1; have HS2 := Lib.hid hs2
      clear hB hs1 hs2
      go_upto_region 3 with (fail)
      go_cut [56] (fun v wx => ∃ B : Bool, v = .bool B ∧ (B = false → (GoodPart nm ∧ NoDD nm) ∧ AreP n1 g1 ∧ (1 ≤ n2 ∧ n2 ≤ 5 ∧ ∀ i, i < n2 → NameOk (f2 i))) ∧ Below w.heap.size w wx)
      case first =>
        go_wp2_with fail
        with_reducible refine (isGlobPartD_any nm _ s0).mono ?_
        rintro e w5 ⟨r1, rfl, hr1, hb⟩
        have HR1 := Lib.hid hr1
        have B2 : Hid (Below w.heap.size w w5) := Lib.hid (B1.out.trans (hb.mono B1.out.size))
        clear hr1 hb
        cases r1 with
        | false =>
          go_wp2
          go_meet
          case rel => exact ⟨true, rfl, fun h => (by cases h), B2.out⟩
        | true =>
        have hq1 := beq_str nm [42, 42]
        have HNB : Hid ((nb nm == ([42, 42] : List UInt8).map UInt8.toNat) = false → GoodPart nm ∧ NoDD nm) := Lib.hid fun h => by
          rcases HR1.out rfl with h2 | h2
          · rw [h2] at h; exact absurd h (by decide)
          · exact h2
        generalize (nb nm == ([42, 42] : List UInt8).map UInt8.toNat) = x1 at hq1 HNB
        have hq2 := beq_str nm [46]
        have hq3 := beq_str nm [46, 46]
        generalize (nb nm == ([46] : List UInt8).map UInt8.toNat) = x2 at hq2
        generalize (nb nm == ([46, 46] : List UInt8).map UInt8.toNat) = x3 at hq3
        cases x1 with
        | true =>
          go_wp2
          go_meet
          case rel => exact ⟨true, rfl, fun h => (by cases h), B2.out⟩
        | false =>
        cases x2 with
        | true =>
          go_wp2
          go_meet
          case rel => exact ⟨true, rfl, fun h => (by cases h), B2.out⟩
        | false =>
        cases x3 with
        | true =>
          go_wp2
          go_meet
          case rel => exact ⟨true, rfl, fun h => (by cases h), B2.out⟩
        | false =>
        go_wp2_with fail
        with_reducible refine (areGlob_any _ _ _ g1 _ s1 m1 m1c (H1.out.below B2.out)).mono ?_
        rintro e w6 ⟨r2, rfl, hr2, hb⟩
        have HR2 := Lib.hid hr2
        have B3 : Hid (Below w.heap.size w w6) := Lib.hid (B2.out.trans (hb.mono B2.out.size))
        clear hr2 hb
        cases r2 with
        | false =>
          go_wp2
          go_meet
          case rel => exact ⟨true, rfl, fun h => (by cases h), B3.out⟩
        | true =>
        go_wp2_with fail
        with_reducible refine (isGlobPath_any _ _ _ f2 _ s2 (H2.out.below B3.out) HS2.out).mono ?_
        rintro e w7 ⟨r3, rfl, hr3, rfl⟩
        have HR3 := Lib.hid hr3; clear hr3
        cases r3 with
        | false =>
          go_wp2
          go_meet
          case rel => exact ⟨true, rfl, fun h => (by cases h), B3.out⟩
        | true =>
          go_wp2
          go_meet
          case rel => exact ⟨false, rfl, fun _ => ⟨(by first | exact HNB.out rfl | exact HNB.out trivial), (by first | exact HR2.out rfl | exact HR2.out trivial), (by first | exact HR3.out rfl | exact HR3.out trivial)⟩, B3.out⟩
      case rest =>
        obtain ⟨B, rfl, hB, hb⟩ := hcut
        have B2 := Lib.hid hb; clear hb
        cases B with
        | true =>
          clear hB
          go_wp2_with fail
          with_reducible refine (awake_any _).mono ?_
          rintro e w3 ⟨rfl, hb⟩
          have B3 := Lib.hid (B2.out.trans (hb.mono B2.out.size)); clear hb
          go_wp2
          go_ret
          exact ⟨rfl, B3.out⟩
        | false =>
          obtain ⟨⟨hgp, hdd⟩, hare, q1, q5, hnm⟩ := hB rfl
          have HGP := Lib.hid hgp; have HDD := Lib.hid (noDD_sub hdd); have HARE := Lib.hid hare; have HNM := Lib.hid hnm
          have hn5 : n1 ≤ 5 := hare.2.1
          have hnz : nm.size ≤ 10 := (toks_spec hgp).2.2.2
          clear hB hgp hdd hare hnm
          obtain ⟨b2, o2, hA2, _⟩ := H2.out 0 (by omega)
          subst hA2
          go_upto_region 8 with (fail)
          go_loopw [7, 8, 61] (fun tv lv iv wr => ∃ (k : Nat) (t : ByteArray), k ≤ n1 ∧ iv = .int .i64 (k : Nat) ∧ tv = .string t ∧ nb t = lineL (nb nm) [32] g1 k ∧ Own wr w.heap.size lv (pathL (fun i => (g1 i).1) k) ∧ Below w.heap.size w wr) (fun _ _ iv _ => n1 - (intOf iv).toNat)
          case atStart => exact ⟨0, nm, Nat.zero_le _, rfl, rfl, rfl, Own.nil _ _, B2.out⟩
          case round =>
            obtain ⟨k, t, hk, rfl, rfl, ht, hown, hb⟩ := hrel
            have HT := Lib.hid ht; have HOWN := Lib.hid hown; have B4 := Lib.hid hb
            clear ht hown hb
            have HTL : Hid (t.size ≤ 400) := Lib.hid (by
              have h1 := line_len (nb nm) [32] g1 k fun i hi => HARE.out.2.2.1 i (by omega)
              rw [← HT.out, nb_length, nb_length] at h1
              have h4 : k * ([32].length + 62) ≤ 5 * 63 := Nat.mul_le_mul (by omega) (Nat.le_refl 63)
              omega)
            by_cases hlt : k < n1
            · have hltI : (k : Int) < n1 := by omega
              obtain ⟨b, off, rfl, _, k0, k1, k2, _⟩ := (H1.out.below B4.out) k hlt
              have HGA := Lib.hid (HARE.out.2.2.1 k hlt)
              have HLE : Hid (lineL (nb nm) [32] g1 (k + 1) = nb t ++ ([32] ++ gaText (g1 k))) := Lib.hid (by rw [HT.out]; rfl)
              have HPE : Hid (pathL (fun i => (g1 i).1) (k + 1) = pathL (fun i => (g1 i).1) k ++ pathL (fun _ => (g1 k).1) 1) := Lib.hid (by unfold pathL; rw [List.range_succ, List.map_append]; rfl)
              generalize g1 k = a at k0 k1 k2 HGA HLE HPE
              obtain ⟨a1, a2, a3⟩ := a
              dsimp only at k0 k1 k2
              have hz1 : a1.size ≤ 1000 := by have h3 : a1.size ≤ 30 := HGA.out.1.2.2; omega
              have hz3 : a3.size ≤ 1000 := by
                by_cases h : a2 = 3
                · have h3 : a3.size ≤ 30 := (HGA.out.2.2.1 h).2.2; omega
                · have h3 : a3.size = 0 := HGA.out.2.2.2 h; omega
              have hbx : (wr.alloc (.cells #[.string a1, .int .u8 (a2 : Nat), .string a3] 42)).cell? ⟨wr.heap.size, 0, none⟩ = some (.string a1) := World.cell?_alloc_mark wr #[.string a1, .int .u8 (a2 : Nat), .string a3] 42 (0, 0) 0
              have HBX := Lib.hid hbx
              clear hbx
              go_wp2_with fail
              with_reducible refine (globAttr_any a1 a2 a3 _ hz1 hz3).mono ?_
              rintro e w5 ⟨s, rfl, hs, hb⟩
              have HS := Lib.hid hs
              have hbx5 : w5.cell? ⟨wr.heap.size, 0, none⟩ = some (.string a1) := (hb.cell (p := ⟨wr.heap.size, 0, none⟩) (by rw [heap_new_size]; exact Nat.lt_succ_self _)).trans HBX.out
              have HO5 : Hid (Own w5 w.heap.size u8 (pathL (fun i => (g1 i).1) k)) := Lib.hid ((HOWN.out.below ((Below.refl _ _).alloc (Nat.le_refl _) _)).below hb)
              have B5 : Hid (Below w.heap.size w w5) := Lib.hid ((B4.out.alloc B4.out.size _).trans (hb.mono (by rw [heap_new_size]; have := B4.out.size; omega)))
              clear hb hs k0 k1 k2
              have q1 : s.size ≤ 62 := by rw [size_of HS.out]; exact (gaText_len HGA.out).2
              have q3 : t.size ≤ 400 := HTL.out
              have q4 : ¬ 9223372036854775807 < 1 + s.size := by omega
              have q5 : ¬ 9223372036854775807 < t.size + (1 + s.size) := by omega
              have q6 : ¬ 9223372036854775807 < t.size + ((⟨#[32]⟩ : ByteArray) ++ s).size := by rw [ByteArray.size_append]; show ¬ 9223372036854775807 < t.size + (1 + s.size); omega
              generalize wr.heap.size = xb at *
              obtain ⟨v6, w6, hr6, hown6, hg6⟩ := own_app (w := w5.alloc (.cells #[.string a1] 9)) (B := w.heap.size) (A := some ⟨w5.heap.size, 0, none⟩) (m := 1) (c := 1) (f := fun _ => a1) 23 (HO5.out.below ((Below.refl _ _).alloc (Nat.le_refl _) _)) (strs_one w5 a1) (by rw [pathL_length]; omega) (by rw [heap_new_size]; have := B5.out.size; omega)
              have HOWN6 := Lib.hid hown6
              have B6 : Hid (Below w.heap.size w w6) := Lib.hid ((B5.out.alloc B5.out.size _).grown hg6 (by rw [heap_new_size]; have := B5.out.size; omega) (fun q e => (HO5.out.lt q e).1))
              clear hown6 hg6
              obtain ⟨A8, c8, hv8⟩ : ∃ A8 c8, u8 = .slice A8 k c8 := by
                obtain ⟨A, c, e, _⟩ := HO5.out.strs
                rw [pathL_length] at e
                exact ⟨A, c, e⟩
              subst hv8
              go_wp2_with (at_builtin; refine wpList_app_run _ rfl (.tmp 70) (.tmp 73) rfl _ _ ?x1 ?x2 _ _ hr6 ?_; (case x1 => rfl); (case x2 => rfl))
              clear hr6
              go_wp2
              go_roundw
              case rel => exact ⟨k + 1, _, by omega, by go_num, rfl, by rw [nb_append, nb_append, HLE.out, HS.out]; rfl, by rw [HPE.out]; exact HOWN6.out, B6.out⟩
              case measure => simp [intOf]; omega
            · obtain rfl : k = n1 := by omega
              clear hlt
              have HD2 : Hid (∀ i j, i < k → j < k → i ≠ j → (g1 i).1 ≠ (g1 j).1) := Lib.hid fun i j hi hj hne => by
                rcases Nat.lt_or_gt_of_ne hne with h | h
                · exact (HARE.out.2.2.2 j i h hj).symm
                · exact HARE.out.2.2.2 i j h hi
              have hk1 : 1 ≤ k := HARE.out.1
              obtain ⟨A8, c8, hv8, _, hs8⟩ := HOWN.out.strs
              rw [pathL_length] at hv8 hs8
              have HS8 : Hid (Strs wr A8 k (fun i => (g1 i).1)) := Lib.hid fun i hi => by
                obtain ⟨b, off, e, h1, h2⟩ := hs8 i hi
                exact ⟨b, off, e, h1, h2.trans (by show some (Value.string ((pathL (fun i => (g1 i).1) k).getD i ⟨#[]⟩)) = _; rw [List.getD_eq_getElem?_getD, pathL_at _ _ _ hi]; rfl)⟩
              clear hs8
              subst hv8
              go_wp2_with fail
              with_reducible refine (lineSorted_any A8 k c8 (fun i => (g1 i).1) _ (by omega) HS8.out HD2.out).mono ?_
              rintro e w5 ⟨v, L, rfl, hown, hsrt, hlen, hmem, hb⟩
              obtain ⟨A9, c9, hv9, _, hs9⟩ := hown.strs
              rw [hlen] at hv9 hs9
              subst hv9
              have HS9 := Lib.hid hs9; have HSRT := Lib.hid hsrt; have HLEN := Lib.hid hlen; have HMEM := Lib.hid hmem
              have B5 := Lib.hid (B4.out.trans (hb.mono B4.out.size))
              clear hown hsrt hlen hmem hb hs9
              obtain ⟨_, _, hA, _, l0⟩ := (H2.out.below B5.out) (n2 - 1) (by omega)
              injection hA with hA
              injection hA with hA hA2
              subst hA; subst hA2
              have HNL : Hid (NameOk (f2 (n2 - 1))) := Lib.hid (HNM.out _ (by omega))
              have y1 : (0 : Int) ≤ (n2 : Int) - 1 := by omega
              have y2 : (n2 : Int) - 1 < n2 := by omega
              go_wp2_with fail
              with_reducible refine (name_part (p := nm) (x := f2 (n2 - 1)) HGP.out (by have := HNL.out.six; omega) _).mono ?_
              rintro e w6 ⟨rfl, m6, hw6⟩
              have B6 : Hid (Below w.heap.size w w6) := Lib.hid (by rw [hw6]; exact below_drewN B5.out _)
              have HS6 : Hid (Strs w6 A9 k (fun i => L.getD i ⟨#[]⟩)) := Lib.hid (HS9.out.below (by rw [hw6]; exact below_drewN (Below.refl _ _) _))
              clear hw6 l0
              obtain ⟨hit, hhit⟩ : ∃ hit, MR nm (f2 (n2 - 1)) = hit := ⟨_, rfl⟩
              rw [hhit]
              have HHIT := Lib.hid hhit
              clear hhit
              have q3 : t.size ≤ 400 := HTL.out
              have q4 : ¬ 9223372036854775807 < t.size + 1 := by omega
              have HTX : Hid (nb (t ++ (⟨#[10]⟩ : ByteArray)) = lineL (nb nm) [32] g1 k ++ [10]) := Lib.hid (by rw [nb_append, HT.out]; rfl)
              go_wp2_with fail
              with_reducible refine (matchAll_any (t ++ (⟨#[10]⟩ : ByteArray)) nm k g1 f2 (some ⟨b2, o2, none⟩) n2 c2 ea msg _ HGP.out HDD.out HARE.out HTX.out (HE.out.below B6.out) (H2.out.below B6.out) ⟨by omega, by omega⟩ (fun i hi => (HNM.out i hi).nm)).mono ?_
              rintro e w8 ⟨v, l, rfl, hml, hsl, hol, hb⟩
              rw [HHIT.out] at hml ⊢
              have B8 := Lib.hid (B6.out.trans (hb.mono B6.out.size))
              have HS8 : Hid (Strs w8 A9 k (fun i => L.getD i ⟨#[]⟩)) := Lib.hid (HS6.out.below hb)
              clear hb
              cases hit with
              | false =>
                have hnil : l = [] := by
                  cases l with
                  | nil => rfl
                  | cons a l => exact absurd ((hml a).mp (List.mem_cons_self ..)).1 (by decide)
                subst hnil
                obtain ⟨A, c, rfl⟩ := out_nil hol
                clear hml hsl hol
                go_wp2_with fail
                with_reducible refine (awake_any _).mono ?_
                rintro e w3 ⟨rfl, hb⟩
                have B9 := Lib.hid (B8.out.trans (hb.mono B8.out.size)); clear hb
                go_wp2
                go_ret
                exact ⟨rfl, B9.out⟩
              | true =>
                have hnames := told_names hml hsl HSRT.out HMEM.out
                have hll : l.length = k := by rw [← HLEN.out, ← hnames, List.length_map]
                obtain ⟨g, c, rfl, hgw, hrows⟩ := out_cells hol (by omega)
                have HROW : Hid (∀ i j, i < k → j < k → (g1 j).1 = L.getD i ⟨#[]⟩ → ∀ t, t < 3 → w8.cell? ⟨g, i * 3 + t, none⟩ = (out3 (readOf (g1 j)))[t]?) := Lib.hid fun i j hi hj hn t ht => by
                  rw [hrows i (by omega) t ht, told_row hml HARE.out.2.2.2 hnames i j (by rw [HLEN.out]; exact hi) hj hn]
                rw [hll]
                clear hml hsl hol hnames hrows hll
                have HGW := Lib.hid hgw
                go_upto_region 23 with (fail)
                go_loopw [116] (fun iv wx => ∃ i : Nat, i ≤ k ∧ iv = .int .i64 (i : Nat) ∧ Below w8.heap.size w8 wx) (fun iv _ => k - (intOf iv).toNat)
                case atStart => exact ⟨0, Nat.zero_le _, rfl, Below.refl _ _⟩
                case round =>
                  obtain ⟨i, hi, rfl, hb⟩ := hrel
                  have BI := Lib.hid hb; clear hb
                  by_cases hik : i < k
                  · have hikI : (i : Int) < k := by omega
                    obtain ⟨b9, o9, rfl, hb9, hc9⟩ := (HS8.out.below BI.out).at i hik
                    generalize hne : L.getD i ⟨#[]⟩ = ne at hc9
                    have HNE := Lib.hid hne; clear hne
                    go_upto_region 26 with (fail)
                    clear hc9
                    go_loopw [123] (fun jv wx => ∃ j : Nat, j ≤ k ∧ jv = .int .i64 (j : Nat) ∧ Below w8.heap.size w8 wx) (fun jv _ => k - (intOf jv).toNat)
                    case atStart => exact ⟨0, Nat.zero_le _, rfl, BI.out⟩
                    case round =>
                      obtain ⟨j, hj, rfl, hb⟩ := hrel
                      have BJ := Lib.hid hb; clear hb
                      by_cases hjk : j < k
                      · have hjkI : (j : Int) < k := by omega
                        have BWJ : Hid (Below w.heap.size w wr) := Lib.hid (B8.out.trans (BJ.out.mono B8.out.size))
                        obtain ⟨b, off, rfl, _, k0, k1, k2, k256, _⟩ := (H1.out.below BWJ.out) j hjk
                        have HGA := Lib.hid (HARE.out.2.2.1 j hjk)
                        have HRJ : Hid ((g1 j).1 = ne → ∀ t, t < 3 → w8.cell? ⟨g, i * 3 + t, none⟩ = (out3 (readOf (g1 j)))[t]?) := Lib.hid fun h => HROW.out i j hik hjk (by rw [h, HNE.out])
                        generalize g1 j = a at k0 k1 k2 k256 HGA HRJ
                        obtain ⟨a1, a2, a3⟩ := a
                        dsimp only at k0 k1 k2 k256
                        have BJ2 : Hid (Below w8.heap.size w8 (wr.alloc (.cells #[.string a1, .int .u8 (a2 : Nat), .string a3] 42))) := Lib.hid (BJ.out.alloc BJ.out.size _)
                        have hall : ∀ t v, (#[Value.string a1, .int .u8 (a2 : Nat), .string a3] : Array Value)[t]? = some v → (wr.alloc (.cells #[.string a1, .int .u8 (a2 : Nat), .string a3] 42)).cell? ⟨wr.heap.size, t, none⟩ = some v := fun t v h => (World.cell?_alloc_mark wr #[.string a1, .int .u8 (a2 : Nat), .string a3] 42 (0, 0) t).trans h
                        have x0 := hall 0 _ rfl
                        have x1 := hall 1 _ rfl
                        have x2 := hall 2 _ rfl
                        clear hall
                        have X := Lib.hid (And.intro x0 (And.intro x1 x2))
                        clear x0 x1 x2
                        go_upto_region 28 with (fail)
                        obtain ⟨x0, x1, x2⟩ := X.out
                        clear k0 k1 k2
                        generalize wr.alloc (.cells #[.string a1, .int .u8 (a2 : Nat), .string a3] 42) = wj at *
                        generalize wr.heap.size = xb at *
                        by_cases he : a1 = ne
                        · subst he
                          have hr := HRJ.out rfl
                          have r0 : wj.cell? ⟨g, i * 3, none⟩ = some (.string a1) := (BJ2.out.cell (p := ⟨g, i * 3, none⟩) HGW.out).trans (hr 0 (by decide))
                          have r1 : wj.cell? ⟨g, i * 3 + 1, none⟩ = some (.string (if a2 = 3 then a3 else ⟨#[]⟩)) := (BJ2.out.cell (p := ⟨g, i * 3 + 1, none⟩) HGW.out).trans (hr 1 (by decide))
                          have r2 : wj.cell? ⟨g, i * 3 + 2, none⟩ = some (.int .i64 (a2 : Nat)) := (BJ2.out.cell (p := ⟨g, i * 3 + 2, none⟩) HGW.out).trans ((hr 2 (by decide)).trans (by show some (Value.int .i64 (stN (readOf (a1, a2, a3)).2.1 : Nat)) = _; rw [readOf_st HGA.out]))
                          have t1 : (a1.toList == a1.toList) = true := beq_self_eq_true _
                          have t2 : (a1.toList != a1.toList) = false := bne_self_eq_false _
                          have t3 : ((a2 : Int) != (a2 : Int)) = false := bne_self_eq_false _
                          have t4 : (a3.toList != a3.toList) = false := bne_self_eq_false _
                          have t5 : IntKind.i64.wrap (a2 : Int) = (a2 : Int) := by rw [IntKind.wrap_i64]; have : a2 < 256 := k256; omega
                          have i1 : (0 : Int) ≤ (i : Int) := by omega
                          clear hr
                          by_cases h3 : a2 = 3
                          · subst h3
                            rw [if_pos rfl] at r1
                            go_quiet (fail)
                            go_wp2
                            go_roundw
                            case rel => exact ⟨j + 1, by omega, by go_num, below_drewN BJ2.out _⟩
                            case measure => simp [intOf]; omega
                          · rw [if_neg h3] at r1
                            have t6 : ((a2 : Int) == 3) = false := beq_eq_false_iff_ne.mpr (by omega)
                            have t7 : ¬ (a2 : Int) = 3 := by omega
                            go_quiet (fail)
                            go_wp2
                            go_roundw
                            case rel => exact ⟨j + 1, by omega, by go_num, below_drewN BJ2.out _⟩
                            case measure => simp [intOf]; omega
                        · have t1 : (a1.toList == ne.toList) = false := by
                            rw [beq_eq_false_iff_ne]
                            exact fun e => he (toList_inj e)
                          clear he
                          go_quiet (fail)
                          go_wp2
                          go_roundw
                          case rel => exact ⟨j + 1, by omega, by go_num, below_drewN BJ2.out _⟩
                          case measure => simp [intOf]; omega
                      · obtain rfl : j = k := by omega
                        go_wp2
                        go_roundw
                        case rel => exact ⟨i + 1, by omega, by go_num, BJ.out⟩
                        case measure => simp [intOf]; omega
                  · obtain rfl : i = k := by omega
                    go_wp2_with fail
                    with_reducible refine (awake_any _).mono ?_
                    rintro e w3 ⟨rfl, hb⟩
                    have B9 := Lib.hid (B8.out.trans ((BI.out.trans (hb.mono BI.out.size)).mono B8.out.size)); clear hb
                    go_wp2
                    go_ret
                    exact ⟨rfl, B9.out⟩
end Go.Proofs.YteipeagdflcjjaaDoor.Am
