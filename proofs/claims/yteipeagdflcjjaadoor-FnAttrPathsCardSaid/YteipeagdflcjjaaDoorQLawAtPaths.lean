/- FnAttrPaths: the walk. -/
import Derived.Test.YteipeagdflcjjaaDoorQAmU
import Derived.BigQuiet
import Derived.Deep.RegionHeld
namespace Go.Proofs.YteipeagdflcjjaaDoor.Am
open Go.RowKit
set_option linter.unusedSimpArgs false
set_option linter.unusedVariables false

/-- The boxes of the pattern and of the attribute. -/
structure Box2 (w W : World) (A : Option Addr) (n c : Nat) (b1 b2 b3 : Bool) (a : AttrT) : Prop where
  bel : Below w.heap.size w W
  size : W.heap.size = w.heap.size + 2
  p0 : W.cell? ⟨w.heap.size, 0, none⟩ = some (.slice A n c)
  p1 : W.cell? ⟨w.heap.size, 1, none⟩ = some (.bool b1)
  p2 : W.cell? ⟨w.heap.size, 2, none⟩ = some (.bool b2)
  p3 : W.cell? ⟨w.heap.size, 3, none⟩ = some (.bool b3)
  a0 : W.cell? ⟨w.heap.size + 1, 0, none⟩ = some (.string a.1)
  a1 : W.cell? ⟨w.heap.size + 1, 1, none⟩ = some (.int .u8 (a.2.1 : Nat))
  a2 : W.cell? ⟨w.heap.size + 1, 2, none⟩ = some (.string a.2.2)
theorem Box2.new (w : World) (A : Option Addr) (n c : Nat) (b1 b2 b3 : Bool) (a : AttrT) :
    Box2 w ((w.alloc (.cells #[.slice A n c, .bool b1, .bool b2, .bool b3] 36)).alloc (.cells #[.string a.1, .int .u8 (a.2.1 : Nat), .string a.2.2] 42)) A n c b1 b2 b3 a := by
  have h := PBox.new w A n c b1 b2 b3
  generalize w.alloc (.cells #[.slice A n c, .bool b1, .bool b2, .bool b3] 36) = V at h
  obtain ⟨d0, d1, d2, d3⟩ := h.cells ((Below.refl V.heap.size V).alloc (Nat.le_refl _) (.cells #[.string a.1, .int .u8 (a.2.1 : Nat), .string a.2.2] 42))
  have hz := h.size
  have e : ∀ j v, (#[.string a.1, .int .u8 (a.2.1 : Nat), .string a.2.2] : Array Value)[j]? = some v → (V.alloc (.cells #[.string a.1, .int .u8 (a.2.1 : Nat), .string a.2.2] 42)).cell? ⟨w.heap.size + 1, j, none⟩ = some v := fun j v hj => by
    rw [← hz]
    exact (World.cell?_alloc_mark V _ 42 (0, 0) j).trans hj
  exact ⟨h.bel.alloc (by omega) _, by rw [heap_new_size, hz], d0, d1, d2, d3, e 0 _ rfl, e 1 _ rfl, e 2 _ rfl⟩
theorem Box2.at {w W w' : World} {A : Option Addr} {n c : Nat} {b1 b2 b3 : Bool} {a : AttrT} (h : Box2 w W A n c b1 b2 b3 a) (hb : Below W.heap.size W w') :
    w'.cell? ⟨w.heap.size, 0, none⟩ = some (.slice A n c) ∧ w'.cell? ⟨w.heap.size, 1, none⟩ = some (.bool b1) ∧ w'.cell? ⟨w.heap.size, 2, none⟩ = some (.bool b2) ∧ w'.cell? ⟨w.heap.size, 3, none⟩ = some (.bool b3) ∧
    w'.cell? ⟨w.heap.size + 1, 0, none⟩ = some (.string a.1) ∧ w'.cell? ⟨w.heap.size + 1, 1, none⟩ = some (.int .u8 (a.2.1 : Nat)) ∧ w'.cell? ⟨w.heap.size + 1, 2, none⟩ = some (.string a.2.2) := by
  have hl : w.heap.size < W.heap.size := by rw [h.size]; omega
  have hl2 : w.heap.size + 1 < W.heap.size := by rw [h.size]; omega
  exact ⟨(hb.cell (p := ⟨w.heap.size, 0, none⟩) hl).trans h.p0, (hb.cell (p := ⟨w.heap.size, 1, none⟩) hl).trans h.p1, (hb.cell (p := ⟨w.heap.size, 2, none⟩) hl).trans h.p2, (hb.cell (p := ⟨w.heap.size, 3, none⟩) hl).trans h.p3,
    (hb.cell (p := ⟨w.heap.size + 1, 0, none⟩) hl2).trans h.a0, (hb.cell (p := ⟨w.heap.size + 1, 1, none⟩) hl2).trans h.a1, (hb.cell (p := ⟨w.heap.size + 1, 2, none⟩) hl2).trans h.a2⟩
theorem Box2.below {w W w' : World} {A : Option Addr} {n c : Nat} {b1 b2 b3 : Bool} {a : AttrT} (h : Box2 w W A n c b1 b2 b3 a) (hb : Below W.heap.size W w') : Below w.heap.size w w' :=
  h.bel.trans (hb.mono (by rw [h.size]; omega))
theorem gas_one (w : World) (a : AttrT) (h : a.2.1 < 256 ∧ a.1.size ≤ maxLen ∧ a.2.2.size ≤ maxLen) : GAs (w.alloc (.cells #[.string a.1, .int .u8 (a.2.1 : Nat), .string a.2.2] 42)) (some ⟨w.heap.size, 0, none⟩) 1 (fun _ => a) := fun k hk => by
  obtain rfl : k = 0 := by omega
  have e : ∀ j v, (#[.string a.1, .int .u8 (a.2.1 : Nat), .string a.2.2] : Array Value)[j]? = some v → (w.alloc (.cells #[.string a.1, .int .u8 (a.2.1 : Nat), .string a.2.2] 42)).cell? ⟨w.heap.size, j, none⟩ = some v := fun j v hj =>
    (World.cell?_alloc_mark w _ 42 (0, 0) j).trans hj
  exact ⟨w.heap.size, 0, rfl, by rw [heap_new_size]; omega, e 0 _ rfl, e 1 _ rfl, e 2 _ rfl, h⟩
/-- What isGlob and its like say where the law speaks. -/
def PathsPre (n0 : Nat) (f0 : Nat → ByteArray) (n1 : Nat) (f1 : Nat → ByteArray) (n2 : Nat) (f2 : Nat → ByteArray) (a : AttrT) : Prop :=
  (1 ≤ n0 ∧ n0 ≤ 4 ∧ ∀ i, i < n0 → PartDk n0 (f0 i)) ∧ (n1 ≤ 5 ∧ ∀ i, i < n1 → NameOk (f1 i)) ∧ (1 ≤ n2 ∧ n2 ≤ 5 ∧ ∀ i, i < n2 → NameOk (f2 i)) ∧ GoodA a
theorem PathsPre.dom {n0 n1 n2 : Nat} {f0 f1 f2 : Nat → ByteArray} {a : AttrT} (h : PathsPre n0 f0 n1 f1 n2 f2 a) : n1 ≤ 5 := h.2.1.1
theorem PathsPre.p1 {n0 n1 n2 : Nat} {f0 f1 f2 : Nat → ByteArray} {a : AttrT} (h : PathsPre n0 f0 n1 f1 n2 f2 a) : 1 ≤ n2 := h.2.2.1.1
theorem PathsPre.p5 {n0 n1 n2 : Nat} {f0 f1 f2 : Nat → ByteArray} {a : AttrT} (h : PathsPre n0 f0 n1 f1 n2 f2 a) : n2 ≤ 5 := h.2.2.1.2.1
theorem PathsPre.names {n0 n1 n2 : Nat} {f0 f1 f2 : Nat → ByteArray} {a : AttrT} (h : PathsPre n0 f0 n1 f1 n2 f2 a) : ∀ i, i < n2 → NameOk (f2 i) := h.2.2.1.2.2
theorem PathsPre.att {n0 n1 n2 : Nat} {f0 f1 f2 : Nat → ByteArray} {a : AttrT} (h : PathsPre n0 f0 n1 f1 n2 f2 a) : GoodA a := h.2.2.2
theorem PathsPre.pat {n0 n1 n2 : Nat} {f0 f1 f2 : Nat → ByteArray} {a : AttrT} (h : PathsPre n0 f0 n1 f1 n2 f2 a) (hn : ∀ i, i < n0 → nb (f0 i) ≠ [42, 42]) : GoodPat n0 f0 :=
  ⟨h.1.1, h.1.2.1, fun i hi => by
    rcases h.1.2.2 i hi with hp | hp
    · exact ⟨hp.1, noDD_sub hp.2⟩
    · exact absurd hp.1 (hn i hi)⟩
/-- The answer as it stands in the law's variables. -/
def OneAt (o : Option AttrT) (v m e : Value) (w' : World) : Prop := match o with
  | none => ∃ A c, v = .slice A 0 c ∧ m = .bool false ∧ e = .string ⟨#[]⟩
  | some a => ∃ g c, v = .slice (some ⟨g, 0, none⟩) 1 c ∧ m = .bool true ∧ e = .string ⟨#[]⟩ ∧ g < w'.heap.size ∧ w'.cell? ⟨g, 0, none⟩ = some (.string a.1) ∧ w'.cell? ⟨g, 1, none⟩ = some (.string a.2.2) ∧ w'.cell? ⟨g, 2, none⟩ = some (.int .i64 (stN a.2.1 : Nat))
theorem one_at {o : Option AttrT} {w w' : World} {e : Ending} (h : OnePost o w e w') : ∃ v m x, e = .returned (.tuple #[v, m, x]) ∧ OneAt o v m x w' ∧ Below w.heap.size w w' := by
  cases o with
  | none =>
    obtain ⟨A, c, rfl, hb⟩ := h
    exact ⟨_, _, _, rfl, ⟨A, c, rfl, rfl, rfl⟩, hb⟩
  | some a =>
    obtain ⟨g, c, rfl, h1, h2, h3, h4, hb⟩ := h
    exact ⟨_, _, _, rfl, ⟨g, c, rfl, rfl, rfl, h1, h2, h3, h4⟩, hb⟩

theorem one_below {o : Option AttrT} {v m x : Value} {w w' : World} (h : OneAt o v m x w) (hb : Below w.heap.size w w') : OneAt o v m x w' := by
  cases o with
  | none => exact h
  | some a =>
    obtain ⟨g, c, h1, h2, h3, hg, c0, c1, c2⟩ := h
    exact ⟨g, c, h1, h2, h3, Nat.lt_of_lt_of_le hg hb.size, (hb.cell (p := ⟨g, 0, none⟩) hg).trans c0, (hb.cell (p := ⟨g, 1, none⟩) hg).trans c1, (hb.cell (p := ⟨g, 2, none⟩) hg).trans c2⟩
set_option maxRecDepth 100000 in
set_option maxHeartbeats 8000000 in
theorem lawAtPaths_any (A0 A1 A2 : Option Addr) (n0 c0 n1 c1 n2 c2 : Nat) (f0 f1 f2 : Nat → ByteArray) (b1 b2 b3 : Bool) (a : AttrT) (ea : Addr) (msg : ByteArray) (w : World)
    (m0 : n0 ≤ maxLen) (l0 : n0 ≤ c0) (h0 : Strs w A0 n0 f0) (m1 : n1 ≤ maxLen) (h1 : Strs w A1 n1 f1) (m2 : n2 ≤ maxLen) (l2 : n2 ≤ c2) (h2 : Strs w A2 n2 f2) (ha : a.2.1 < 256 ∧ a.1.size ≤ maxLen ∧ a.2.2.size ≤ maxLen) (hE : ErrAt w 6 ea msg) :
    Calls Tryd.prog 8 #[.agg #[.slice A0 n0 c0, .bool b1, .bool b2, .bool b3], .slice A1 n1 c1, .slice A2 n2 c2, .agg #[.string a.1, .int .u8 (a.2.1 : Nat), .string a.2.2]] w (TrueBelow w) := by
  have H0 := Lib.hid h0; have H1 := Lib.hid h1; have H2 := Lib.hid h2; have HE := Lib.hid hE; have HA := Lib.hid ha
  clear h0 h1 h2 hE ha
  go_enter Tryd.func8, Tryd.ntmps8
  go_upto_region 1 with (fail)
  generalize hW : World.alloc (World.alloc w _) _ = W
  have hW2 : Box2 w W A0 n0 c0 b1 b2 b3 a := by subst hW; exact Box2.new w A0 n0 c0 b1 b2 b3 a
  clear hW
  have HW := Lib.hid hW2
  obtain ⟨d0, d1, d2, d3, d4, d5, d6⟩ := hW2.at (Below.refl _ _)
  clear hW2
  go_cut [32] (fun v wx => ∃ B : Bool, v = .bool B ∧ (B = false → (n0 ≤ 2147483647 ∧ ∀ i, i < n0 → (f0 i).size ≤ 2147483647) ∧ (n1 ≤ 2147483647 ∧ ∀ i, i < n1 → (f1 i).size ≤ 2147483647) ∧ (n2 ≤ 2147483647 ∧ ∀ i, i < n2 → (f2 i).size ≤ 2147483647)) ∧ Below W.heap.size W wx)
  case first =>
    go_wp2_with fail
    with_reducible refine (fits28_any _ _ _ f0 _ _ _ _ m0 (H0.out.below HW.out.bel)).mono ?_
    rintro e w1 ⟨r1, rfl, hr1, hb⟩
    have HB := Lib.hid hb; clear hb
    have HR1 := Lib.hid hr1; clear hr1
    cases r1 with
    | false =>
      go_wp2
      go_meet
      case rel => exact ⟨true, rfl, fun h => (by cases h), HB.out⟩
    | true =>
      go_wp2_with fail
      with_reducible refine (fits3_any _ _ _ f1 _ m1 (H1.out.below (HW.out.below HB.out))).mono ?_
      rintro e w2 ⟨r2, rfl, hr2, rfl⟩
      have HR2 := Lib.hid hr2; clear hr2
      cases r2 with
      | false =>
        go_wp2
        go_meet
        case rel => exact ⟨true, rfl, fun h => (by cases h), HB.out⟩
      | true =>
        go_wp2_with fail
        with_reducible refine (fits3_any _ _ _ f2 _ m2 (H2.out.below (HW.out.below HB.out))).mono ?_
        rintro e w3 ⟨r3, rfl, hr3, rfl⟩
        have HR3 := Lib.hid hr3; clear hr3 d0 d1 d2 d3 d4 d5 d6
        obtain ⟨d0, d1, d2, d3, d4, d5, d6⟩ := HW.out.at HB.out
        cases r3 with
        | false =>
          go_wp2
          go_meet
          case rel => exact ⟨true, rfl, fun h => (by cases h), HB.out⟩
        | true =>
          go_wp2_with fail
          with_reducible refine (fits30_any _ _ _ _).mono ?_
          rintro e w4 ⟨r4, rfl, _, hb⟩
          have HB4 := Lib.hid (HB.out.trans (hb.mono HB.out.size)); clear hb
          cases r4 with
          | false =>
            go_wp2
            go_meet
            case rel => exact ⟨true, rfl, fun h => (by cases h), HB4.out⟩
          | true =>
            go_wp2
            go_meet
            case rel => exact ⟨false, rfl, fun _ => ⟨(by first | exact HR1.out rfl | exact HR1.out trivial), (by first | exact HR2.out rfl | exact HR2.out trivial), (by first | exact HR3.out rfl | exact HR3.out trivial)⟩, HB4.out⟩
  case rest =>
    obtain ⟨B, rfl, hB, hb⟩ := hcut
    clear d0 d1 d2 d3 d4 d5 d6
    have B1 := Lib.hid hb; clear hb
    cases B with
    | true =>
      clear hB
      go_wp2
      go_ret
      exact ⟨rfl, HW.out.below B1.out⟩
    | false =>
      obtain ⟨⟨s0, hs0⟩, ⟨s1, hs1⟩, ⟨s2, hs2⟩⟩ := hB rfl
      have HS0 := Lib.hid hs0; have HS1 := Lib.hid hs1; have HS2 := Lib.hid hs2
      clear hB hs0 hs1 hs2
      obtain ⟨d0, d1, d2, d3, d4, d5, d6⟩ := HW.out.at B1.out
      go_upto_region 3 with (fail)
      go_cut [59] (fun v wx => ∃ B : Bool, v = .bool B ∧ (B = false → PathsPre n0 f0 n1 f1 n2 f2 a ∧ b1 = false ∧ b3 = false) ∧ Below W.heap.size W wx)
      case first =>
        go_wp2_with fail
        with_reducible refine (isGlobD_any _ _ _ f0 _ _ _ _ s0 (H0.out.below (HW.out.below B1.out)) HS0.out).mono ?_
        rintro e w1 ⟨r1, rfl, hr1, hb⟩
        have B2 := Lib.hid (B1.out.trans (hb.mono B1.out.size)); clear hb
        have HR1 := Lib.hid hr1; clear hr1 d0 d1 d2 d3 d4 d5 d6
        obtain ⟨d0, d1, d2, d3, d4, d5, d6⟩ := HW.out.at B2.out
        cases r1 with
        | false =>
          go_wp2
          go_meet
          case rel => exact ⟨true, rfl, fun h => (by cases h), B2.out⟩
        | true =>
        cases b1 with
        | true =>
          go_wp2
          go_meet
          case rel => exact ⟨true, rfl, fun h => (by cases h), B2.out⟩
        | false =>
        cases b3 with
        | true =>
          go_wp2
          go_meet
          case rel => exact ⟨true, rfl, fun h => (by cases h), B2.out⟩
        | false =>
        go_wp2_with fail
        with_reducible refine (isGlobPath0_any _ _ _ f1 _ s1 (H1.out.below (HW.out.below B2.out)) HS1.out).mono ?_
        rintro e w4 ⟨r4, rfl, hr4, rfl⟩
        have HR4 := Lib.hid hr4; clear hr4
        cases r4 with
        | false =>
          go_wp2
          go_meet
          case rel => exact ⟨true, rfl, fun h => (by cases h), B2.out⟩
        | true =>
        go_wp2_with fail
        with_reducible refine (isGlobPath_any _ _ _ f2 _ s2 (H2.out.below (HW.out.below B2.out)) HS2.out).mono ?_
        rintro e w5 ⟨r5, rfl, hr5, rfl⟩
        have HR5 := Lib.hid hr5; clear hr5
        cases r5 with
        | false =>
          go_wp2
          go_meet
          case rel => exact ⟨true, rfl, fun h => (by cases h), B2.out⟩
        | true =>
        go_wp2_with fail
        with_reducible refine (areGlob_any _ 1 1 (fun _ => a) _ (by decide) (by decide) (by decide) (gas_one _ _ HA.out)).mono ?_
        rintro e w6 ⟨r6, rfl, hr6, hb⟩
        have HR6 := Lib.hid hr6
        have B3 := Lib.hid ((B2.out.alloc B2.out.size _).trans (hb.mono (by rw [heap_new_size]; have := B2.out.size; omega))); clear hb hr6
        cases r6 with
        | false =>
          go_wp2
          go_meet
          case rel => exact ⟨true, rfl, fun h => (by cases h), B3.out⟩
        | true =>
          go_wp2
          go_meet
          case rel => exact ⟨false, rfl, fun _ => ⟨⟨(by first | exact HR1.out rfl | exact HR1.out trivial), (by first | exact HR4.out rfl | exact HR4.out trivial), (by first | exact HR5.out rfl | exact HR5.out trivial), (by first | exact (HR6.out rfl).2.2.1 0 (by decide) | exact (HR6.out trivial).2.2.1 0 (by decide))⟩, (by first | rfl | trivial), (by first | rfl | trivial)⟩, B3.out⟩
      case rest =>
        obtain ⟨B, rfl, hB, hb⟩ := hcut
        clear d0 d1 d2 d3 d4 d5 d6
        have B2 := Lib.hid (hb); clear hb
        cases B with
        | true =>
          clear hB
          go_wp2_with fail
          with_reducible refine (awake_any _).mono ?_
          rintro e w3 ⟨rfl, hb⟩
          have B3 := Lib.hid (B2.out.trans (hb.mono B2.out.size)); clear hb
          go_wp2
          go_ret
          exact ⟨rfl, HW.out.below B3.out⟩
        | false =>
          obtain ⟨hpre, rfl, rfl⟩ := hB rfl
          have HP := Lib.hid hpre
          clear hB hpre
          obtain ⟨d0, d1, d2, d3, d4, d5, d6⟩ := HW.out.at B2.out
          go_upto_region 6 with (fail)
          clear d0 d1 d2 d3 d4 d5 d6
          go_loopw [64] (fun i wr => ∃ k : Nat, k ≤ n0 ∧ i = .int .i64 (k : Nat) ∧ (∀ j, j < k → nb (f0 j) ≠ [42, 42]) ∧ Below W.heap.size W wr) (fun i _ => n0 - (intOf i).toNat)
          case atStart => exact ⟨0, Nat.zero_le _, rfl, fun j h => absurd h (Nat.not_lt_zero _), B2.out⟩
          case round =>
            obtain ⟨k, hk, rfl, hall, hb⟩ := hrel
            have HALL := Lib.hid hall; have B3 := Lib.hid hb
            clear hall hb
            by_cases hlt : k < n0
            · have hltI : (k : Int) < n0 := by omega
              obtain ⟨b0, o0, rfl, _, hc0⟩ := (H0.out.below (HW.out.below B3.out)).at k hlt
              have hq := beq_str (f0 k) [42, 42]
              cases hQ : (nb (f0 k) == ([42, 42] : List UInt8).map UInt8.toNat) with
              | true =>
                rw [hQ] at hq
                clear hQ
                go_wp2_with fail
                with_reducible refine (awake_any _).mono ?_
                rintro e w3 ⟨rfl, hb⟩
                have B4 := Lib.hid (B3.out.trans (hb.mono B3.out.size)); clear hb
                go_wp2
                go_ret
                exact ⟨rfl, HW.out.below B4.out⟩
              | false =>
                rw [hQ] at hq
                have HQ : Hid (nb (f0 k) ≠ [42, 42]) := Lib.hid (beq_eq_false_iff_ne.mp hQ)
                clear hQ
                go_wp2
                go_roundw
                case rel =>
                  refine ⟨k + 1, by omega, by go_num, fun j hj => ?_, B3.out⟩
                  by_cases e : j = k
                  · subst e; exact HQ.out
                  · exact HALL.out j (by omega)
                case measure => simp [intOf]; omega
            · obtain rfl : k = n0 := by omega
              clear hlt
              have HGP := Lib.hid (HP.out.pat HALL.out)
              go_upto_region 11 with (fail)
              -- REGION 11
              obtain ⟨a1, a2, a3⟩ := a
              have hz1 : a1.size ≤ 1000 := by have h3 : a1.size ≤ 30 := HP.out.att.1.2.2; omega
              have hz3 : a3.size ≤ 1000 := by
                by_cases h : a2 = 3
                · have h3 : a3.size ≤ 30 := (HP.out.att.2.2.1 h).2.2; omega
                · have h3 : a3.size = 0 := HP.out.att.2.2.2 h; omega
              go_cut [11, 12, 13] (fun v m e wx => OneAt (if hitW k f0 b2 n1 f1 n2 f2 = true then some (readOf (a1, a2, a3)) else none) v m e wx ∧ Below W.heap.size W wx)
              case first =>
                refine wp_region_held_drew (S := fun w' => Below wr.heap.size wr w') (by kernel_rfl) (Below.refl _ _).drew ?_
                intro hSW
                generalize wr.drew = wd at hSW ⊢
                have HSW : Hid (Below wr.heap.size wr wd) := Lib.hid hSW
                clear hSW
                refine wpAnyH_take (i := 0) (v := .agg #[.slice A0 k c0, .bool false, .bool b2, .bool false]) rfl (by kernel_rfl) (by kernel_rfl) (by kernel_rfl) (fun _ _ _ h => h) (Or.inl ⟨by kernel_rfl, by intro w hS; obtain ⟨d0, d1, d2, d3, d4, d5, d6⟩ := HW.out.at (B3.out.trans (hS.mono B3.out.size)); go_simp⟩) HSW.out ?_
                refine wpAnyH_take (i := 3) (v := .agg #[.string a1, .int .u8 (a2 : Nat), .string a3]) rfl (by kernel_rfl) (by kernel_rfl) (by kernel_rfl) (fun _ _ _ h => h) (Or.inl ⟨by kernel_rfl, by intro w hS; obtain ⟨d0, d1, d2, d3, d4, d5, d6⟩ := HW.out.at (B3.out.trans (hS.mono B3.out.size)); go_simp⟩) HSW.out ?_
                refine wpAnyH_take (i := 7) (v := .slice A1 n1 c1) rfl (by kernel_rfl) (by kernel_rfl) (by kernel_rfl) (fun _ _ _ h => h) (Or.inl ⟨by kernel_rfl, by intro w hS; go_simp⟩) HSW.out ?_
                refine wpAnyH_take (i := 8) (v := .slice A2 n2 c2) rfl (by kernel_rfl) (by kernel_rfl) (by kernel_rfl) (fun _ _ _ h => h) (Or.inl ⟨by kernel_rfl, by intro w hS; go_simp⟩) HSW.out ?_
                refine wpAnyH_take (i := 9) (v := .pointer (some ⟨w.heap.size + 1, 0, none⟩)) rfl (by kernel_rfl) (by kernel_rfl) (by kernel_rfl) (fun _ _ _ h => h) (Or.inl ⟨by kernel_rfl, by intro w hS; go_simp⟩) HSW.out ?_
                refine wpAnyH_take (i := 10) (v := .string a1) rfl (by kernel_rfl) (by kernel_rfl) (by kernel_rfl) (fun _ _ _ h => h) (Or.inl ⟨by kernel_rfl, by intro w hS; obtain ⟨d0, d1, d2, d3, d4, d5, d6⟩ := HW.out.at (B3.out.trans (hS.mono B3.out.size)); go_simp⟩) HSW.out ?_
                refine wpAnyH_ready (rs := [1,11]) (by kernel_rfl) (by simp) ?_
                refine AllReadyH.cons rfl (fun K hK => ?_) (AllReadyH.cons rfl (fun K hK => ?_) AllReadyH.nil)
                · go_simp
                  go_at_call 24
                  refine (globText_any A0 k c0 f0 b2 false _ HGP.out.four (H0.out.below (HW.out.below (B3.out.trans (HSW.out.mono B3.out.size)))) HGP.out.ok).mono ?_
                  rintro e v01 ⟨t, rfl, ht, hts, hb⟩
                  have HT : Hid (nb t = gt f0 b2 k) := Lib.hid (by rw [ht]; exact List.append_nil _)
                  have HS7 : Hid (Below wr.heap.size wr v01) := Lib.hid (HSW.out.trans (hb.mono HSW.out.size))
                  clear hb ht HSW
                  refine hK.out _ _ HS7.out (fun HSX => ?_)
                  clear hK K HSX
                  have HSW := HS7
                  clear HS7
                  have q1 : ¬ 9223372036854775807 < t.size + 1 := by omega
                  refine wpAnyH_take (i := 2) (v := .string (t ++ (⟨#[32]⟩ : ByteArray))) rfl (by kernel_rfl) (by kernel_rfl) (by kernel_rfl) (fun _ _ _ h => h) (Or.inl ⟨by kernel_rfl, by intro w hS; go_simp⟩) HSW.out ?_
                  refine wpAnyH_ready (rs := [4,11]) (by kernel_rfl) (by simp) ?_
                  refine AllReadyH.cons rfl (fun K hK => ?_) (AllReadyH.cons rfl (fun K hK => ?_) AllReadyH.nil)
                  · go_simp
                    go_at_call 25
                    refine (globAttr_any a1 a2 a3 _ hz1 hz3).mono ?_
                    rintro e v14 ⟨s, rfl, hs, hb⟩
                    have HS := Lib.hid hs
                    have hsz : s.size ≤ 62 := by rw [size_of hs]; exact (gaText_len HP.out.att).2
                    have HS7 : Hid (Below wr.heap.size wr v14) := Lib.hid (HSW.out.trans (hb.mono HSW.out.size))
                    clear hb hs HSW
                    refine hK.out _ _ HS7.out (fun HSX => ?_)
                    clear hK K HSX
                    have HSW := HS7
                    clear HS7
                    have e1 : (t ++ (⟨#[32]⟩ : ByteArray)).size = t.size + 1 := ByteArray.size_append
                    have e2 : (t ++ (⟨#[32]⟩ : ByteArray) ++ s).size = t.size + 1 + s.size := by rw [ByteArray.size_append, e1]
                    have q2 : ¬ 9223372036854775807 < (t ++ (⟨#[32]⟩ : ByteArray)).size + s.size := by omega
                    have q3 : ¬ 9223372036854775807 < (t ++ (⟨#[32]⟩ : ByteArray) ++ s).size + 1 := by omega
                    have q4 : ¬ 9223372036854775807 < t.size + 1 + s.size := by omega
                    have q5 : ¬ 9223372036854775807 < t.size + 1 + s.size + 1 := by omega
                    have q6 : ¬ 9223372036854775807 ≤ t.size + 1 + s.size := by omega
                    clear e1 e2
                    refine wpAnyH_take (i := 5) (v := .string (t ++ (⟨#[32]⟩ : ByteArray) ++ s)) rfl (by kernel_rfl) (by kernel_rfl) (by kernel_rfl) (fun _ _ _ h => h) (Or.inl ⟨by kernel_rfl, by intro w hS; go_simp⟩) HSW.out ?_
                    refine wpAnyH_take (i := 6) (v := .string (t ++ (⟨#[32]⟩ : ByteArray) ++ s ++ (⟨#[10]⟩ : ByteArray))) rfl (by kernel_rfl) (by kernel_rfl) (by kernel_rfl) (fun _ _ _ h => h) (Or.inl ⟨by kernel_rfl, by intro w hS; go_simp⟩) HSW.out ?_
                    refine wpAnyH_ready (rs := [11]) (by kernel_rfl) (by simp) ?_
                    refine AllReadyH.cons rfl (fun K hK => ?_) AllReadyH.nil
                    go_simp
                    have HS7 : Hid (Below wr.heap.size wr (v14.alloc (.cells #[.string a1] 9))) := Lib.hid (HSW.out.alloc HSW.out.size _)
                    have HN1 : Hid (Strs (v14.alloc (.cells #[.string a1] 9)) (some ⟨v14.heap.size, 0, none⟩) 1 (fun _ => a1)) := Lib.hid (strs_one v14 a1)
                    refine hK.out _ _ HS7.out (fun HSX => ?_)
                    clear hK K HSX HSW
                    generalize hal : v14.alloc (.cells #[.string a1] 9) = v211 at *
                    generalize v14.heap.size = nb1 at HN1 ⊢
                    clear hal
                    have HSW := HS7
                    clear HS7
                    have HTX : Hid (nb (t ++ (⟨#[32]⟩ : ByteArray) ++ s ++ (⟨#[10]⟩ : ByteArray)) = txt (fun _ => t) (fun _ => (a1, a2, a3)) 1) := Lib.hid (by
                      rw [nb_append, nb_append, nb_append, HS.out]
                      show _ = [] ++ (lineN t (a1, a2, a3) ++ [10])
                      unfold lineN
                      simp [nb])
                    refine wpAnyH_ready (rs := [12]) (by kernel_rfl) (by simp) ?_
                    refine AllReadyH.cons rfl (fun K hK => ?_) AllReadyH.nil
                    go_simp
                    go_at_call 29
                    have BX : Hid (Below w.heap.size w v211) := Lib.hid (HW.out.below (B3.out.trans (HSW.out.mono B3.out.size)))
                    refine (matchPat_any _ t k f0 f1 f2 b2 (a1, a2, a3) A1 A2 (some ⟨nb1, 0, none⟩) n1 c1 n2 c2 1 (fun _ => a1) ea msg v211 HGP.out HT.out (by omega) HP.out.att HTX.out (HE.out.below BX.out) (H1.out.below BX.out) (by have := HP.out.dom; omega) (H2.out.below BX.out) ⟨HP.out.p1, by have := HP.out.p5; omega⟩ (fun i hi => (HP.out.names i hi).nm) HN1.out).mono ?_
                    rintro e w8 hone
                    obtain ⟨v, m, x, rfl, hat, hb⟩ := one_at hone
                    have HAT := Lib.hid hat
                    have HS7 : Hid (Below wr.heap.size wr w8) := Lib.hid (HSW.out.trans (hb.mono HSW.out.size))
                    clear hb hat hone HSW
                    refine hK.out _ _ HS7.out (fun HSX => ?_)
                    clear hK K HSX
                    have HSW := HS7
                    refine wpAnyH_take (i := 13) (v := .tuple #[v, m, x]) rfl (by kernel_rfl) (by kernel_rfl) (by kernel_rfl) (fun _ _ _ h => h) (Or.inl ⟨by kernel_rfl, by intro w hS; go_simp⟩) HSW.out ?_
                    refine wpAnyH_take (i := 14) (v := v) rfl (by kernel_rfl) (by kernel_rfl) (by kernel_rfl) (fun _ _ _ h => h) (Or.inl ⟨by kernel_rfl, by intro w hS; go_simp⟩) HSW.out ?_
                    refine wpAnyH_take (i := 15) (v := m) rfl (by kernel_rfl) (by kernel_rfl) (by kernel_rfl) (fun _ _ _ h => h) (Or.inl ⟨by kernel_rfl, by intro w hS; go_simp⟩) HSW.out ?_
                    refine wpAnyH_take (i := 16) (v := x) rfl (by kernel_rfl) (by kernel_rfl) (by kernel_rfl) (fun _ _ _ h => h) (Or.inl ⟨by kernel_rfl, by intro w hS; go_simp⟩) HSW.out ?_
                    refine wpAnyH_take (i := 17) (v := v) rfl (by kernel_rfl) (by kernel_rfl) (by kernel_rfl) (fun _ _ _ h => h) (Or.inl ⟨by kernel_rfl, by intro w hS; go_simp⟩) HSW.out ?_
                    refine wpAnyH_take (i := 18) (v := m) rfl (by kernel_rfl) (by kernel_rfl) (by kernel_rfl) (fun _ _ _ h => h) (Or.inl ⟨by kernel_rfl, by intro w hS; go_simp⟩) HSW.out ?_
                    refine wpAnyH_take (i := 19) (v := x) rfl (by kernel_rfl) (by kernel_rfl) (by kernel_rfl) (fun _ _ _ h => h) (Or.inl ⟨by kernel_rfl, by intro w hS; go_simp⟩) HSW.out ?_
                    refine wpAnyH_done (by kernel_rfl) ?_ _
                    go_wp2
                    go_meet
                    case rel => exact ⟨HAT.out, B3.out.trans (HS7.out.mono B3.out.size)⟩
                  · go_simp
                    have HS7 : Hid (Below wr.heap.size wr (v01.alloc (.cells #[.string a1] 9))) := Lib.hid (HSW.out.alloc HSW.out.size _)
                    have HN1 : Hid (Strs (v01.alloc (.cells #[.string a1] 9)) (some ⟨v01.heap.size, 0, none⟩) 1 (fun _ => a1)) := Lib.hid (strs_one v01 a1)
                    refine hK.out _ _ HS7.out (fun HSX => ?_)
                    clear hK K HSX HSW
                    generalize hal : v01.alloc (.cells #[.string a1] 9) = v111 at *
                    generalize v01.heap.size = nb1 at HN1 ⊢
                    clear hal
                    have HSW := HS7
                    clear HS7
                    refine wpAnyH_ready (rs := [4]) (by kernel_rfl) (by simp) ?_
                    refine AllReadyH.cons rfl (fun K hK => ?_) AllReadyH.nil
                    go_simp
                    go_at_call 25
                    refine (globAttr_any a1 a2 a3 _ hz1 hz3).mono ?_
                    rintro e v24 ⟨s, rfl, hs, hb⟩
                    have HS := Lib.hid hs
                    have hsz : s.size ≤ 62 := by rw [size_of hs]; exact (gaText_len HP.out.att).2
                    have HS7 : Hid (Below wr.heap.size wr v24) := Lib.hid (HSW.out.trans (hb.mono HSW.out.size))
                    replace HN1 := Lib.hid (HN1.out.below hb)
                    clear hb hs HSW
                    refine hK.out _ _ HS7.out (fun HSX => ?_)
                    clear hK K HSX
                    have HSW := HS7
                    clear HS7
                    have e1 : (t ++ (⟨#[32]⟩ : ByteArray)).size = t.size + 1 := ByteArray.size_append
                    have e2 : (t ++ (⟨#[32]⟩ : ByteArray) ++ s).size = t.size + 1 + s.size := by rw [ByteArray.size_append, e1]
                    have q2 : ¬ 9223372036854775807 < (t ++ (⟨#[32]⟩ : ByteArray)).size + s.size := by omega
                    have q3 : ¬ 9223372036854775807 < (t ++ (⟨#[32]⟩ : ByteArray) ++ s).size + 1 := by omega
                    have q4 : ¬ 9223372036854775807 < t.size + 1 + s.size := by omega
                    have q5 : ¬ 9223372036854775807 < t.size + 1 + s.size + 1 := by omega
                    have q6 : ¬ 9223372036854775807 ≤ t.size + 1 + s.size := by omega
                    clear e1 e2
                    refine wpAnyH_take (i := 5) (v := .string (t ++ (⟨#[32]⟩ : ByteArray) ++ s)) rfl (by kernel_rfl) (by kernel_rfl) (by kernel_rfl) (fun _ _ _ h => h) (Or.inl ⟨by kernel_rfl, by intro w hS; go_simp⟩) HSW.out ?_
                    refine wpAnyH_take (i := 6) (v := .string (t ++ (⟨#[32]⟩ : ByteArray) ++ s ++ (⟨#[10]⟩ : ByteArray))) rfl (by kernel_rfl) (by kernel_rfl) (by kernel_rfl) (fun _ _ _ h => h) (Or.inl ⟨by kernel_rfl, by intro w hS; go_simp⟩) HSW.out ?_
                    have HTX : Hid (nb (t ++ (⟨#[32]⟩ : ByteArray) ++ s ++ (⟨#[10]⟩ : ByteArray)) = txt (fun _ => t) (fun _ => (a1, a2, a3)) 1) := Lib.hid (by
                      rw [nb_append, nb_append, nb_append, HS.out]
                      show _ = [] ++ (lineN t (a1, a2, a3) ++ [10])
                      unfold lineN
                      simp [nb])
                    refine wpAnyH_ready (rs := [12]) (by kernel_rfl) (by simp) ?_
                    refine AllReadyH.cons rfl (fun K hK => ?_) AllReadyH.nil
                    go_simp
                    go_at_call 29
                    have BX : Hid (Below w.heap.size w v24) := Lib.hid (HW.out.below (B3.out.trans (HSW.out.mono B3.out.size)))
                    refine (matchPat_any _ t k f0 f1 f2 b2 (a1, a2, a3) A1 A2 (some ⟨nb1, 0, none⟩) n1 c1 n2 c2 1 (fun _ => a1) ea msg v24 HGP.out HT.out (by omega) HP.out.att HTX.out (HE.out.below BX.out) (H1.out.below BX.out) (by have := HP.out.dom; omega) (H2.out.below BX.out) ⟨HP.out.p1, by have := HP.out.p5; omega⟩ (fun i hi => (HP.out.names i hi).nm) HN1.out).mono ?_
                    rintro e w8 hone
                    obtain ⟨v, m, x, rfl, hat, hb⟩ := one_at hone
                    have HAT := Lib.hid hat
                    have HS7 : Hid (Below wr.heap.size wr w8) := Lib.hid (HSW.out.trans (hb.mono HSW.out.size))
                    clear hb hat hone HSW
                    refine hK.out _ _ HS7.out (fun HSX => ?_)
                    clear hK K HSX
                    have HSW := HS7
                    refine wpAnyH_take (i := 13) (v := .tuple #[v, m, x]) rfl (by kernel_rfl) (by kernel_rfl) (by kernel_rfl) (fun _ _ _ h => h) (Or.inl ⟨by kernel_rfl, by intro w hS; go_simp⟩) HSW.out ?_
                    refine wpAnyH_take (i := 14) (v := v) rfl (by kernel_rfl) (by kernel_rfl) (by kernel_rfl) (fun _ _ _ h => h) (Or.inl ⟨by kernel_rfl, by intro w hS; go_simp⟩) HSW.out ?_
                    refine wpAnyH_take (i := 15) (v := m) rfl (by kernel_rfl) (by kernel_rfl) (by kernel_rfl) (fun _ _ _ h => h) (Or.inl ⟨by kernel_rfl, by intro w hS; go_simp⟩) HSW.out ?_
                    refine wpAnyH_take (i := 16) (v := x) rfl (by kernel_rfl) (by kernel_rfl) (by kernel_rfl) (fun _ _ _ h => h) (Or.inl ⟨by kernel_rfl, by intro w hS; go_simp⟩) HSW.out ?_
                    refine wpAnyH_take (i := 17) (v := v) rfl (by kernel_rfl) (by kernel_rfl) (by kernel_rfl) (fun _ _ _ h => h) (Or.inl ⟨by kernel_rfl, by intro w hS; go_simp⟩) HSW.out ?_
                    refine wpAnyH_take (i := 18) (v := m) rfl (by kernel_rfl) (by kernel_rfl) (by kernel_rfl) (fun _ _ _ h => h) (Or.inl ⟨by kernel_rfl, by intro w hS; go_simp⟩) HSW.out ?_
                    refine wpAnyH_take (i := 19) (v := x) rfl (by kernel_rfl) (by kernel_rfl) (by kernel_rfl) (fun _ _ _ h => h) (Or.inl ⟨by kernel_rfl, by intro w hS; go_simp⟩) HSW.out ?_
                    refine wpAnyH_done (by kernel_rfl) ?_ _
                    go_wp2
                    go_meet
                    case rel => exact ⟨HAT.out, B3.out.trans (HS7.out.mono B3.out.size)⟩
                · go_simp
                  have HS7 : Hid (Below wr.heap.size wr (wd.alloc (.cells #[.string a1] 9))) := Lib.hid (HSW.out.alloc HSW.out.size _)
                  have HN1 : Hid (Strs (wd.alloc (.cells #[.string a1] 9)) (some ⟨wd.heap.size, 0, none⟩) 1 (fun _ => a1)) := Lib.hid (strs_one wd a1)
                  refine hK.out _ _ HS7.out (fun HSX => ?_)
                  clear hK K HSX HSW
                  generalize hal : wd.alloc (.cells #[.string a1] 9) = v011 at *
                  generalize wd.heap.size = nb1 at HN1 ⊢
                  clear hal
                  have HSW := HS7
                  clear HS7
                  refine wpAnyH_ready (rs := [1]) (by kernel_rfl) (by simp) ?_
                  refine AllReadyH.cons rfl (fun K hK => ?_) AllReadyH.nil
                  go_simp
                  go_at_call 24
                  refine (globText_any A0 k c0 f0 b2 false _ HGP.out.four (H0.out.below (HW.out.below (B3.out.trans (HSW.out.mono B3.out.size)))) HGP.out.ok).mono ?_
                  rintro e v11 ⟨t, rfl, ht, hts, hb⟩
                  have HT : Hid (nb t = gt f0 b2 k) := Lib.hid (by rw [ht]; exact List.append_nil _)
                  have HS7 : Hid (Below wr.heap.size wr v11) := Lib.hid (HSW.out.trans (hb.mono HSW.out.size))
                  replace HN1 := Lib.hid (HN1.out.below hb)
                  clear hb ht HSW
                  refine hK.out _ _ HS7.out (fun HSX => ?_)
                  clear hK K HSX
                  have HSW := HS7
                  clear HS7
                  have q1 : ¬ 9223372036854775807 < t.size + 1 := by omega
                  refine wpAnyH_take (i := 2) (v := .string (t ++ (⟨#[32]⟩ : ByteArray))) rfl (by kernel_rfl) (by kernel_rfl) (by kernel_rfl) (fun _ _ _ h => h) (Or.inl ⟨by kernel_rfl, by intro w hS; go_simp⟩) HSW.out ?_
                  refine wpAnyH_ready (rs := [4]) (by kernel_rfl) (by simp) ?_
                  refine AllReadyH.cons rfl (fun K hK => ?_) AllReadyH.nil
                  go_simp
                  go_at_call 25
                  refine (globAttr_any a1 a2 a3 _ hz1 hz3).mono ?_
                  rintro e v24 ⟨s, rfl, hs, hb⟩
                  have HS := Lib.hid hs
                  have hsz : s.size ≤ 62 := by rw [size_of hs]; exact (gaText_len HP.out.att).2
                  have HS7 : Hid (Below wr.heap.size wr v24) := Lib.hid (HSW.out.trans (hb.mono HSW.out.size))
                  replace HN1 := Lib.hid (HN1.out.below hb)
                  clear hb hs HSW
                  refine hK.out _ _ HS7.out (fun HSX => ?_)
                  clear hK K HSX
                  have HSW := HS7
                  clear HS7
                  have e1 : (t ++ (⟨#[32]⟩ : ByteArray)).size = t.size + 1 := ByteArray.size_append
                  have e2 : (t ++ (⟨#[32]⟩ : ByteArray) ++ s).size = t.size + 1 + s.size := by rw [ByteArray.size_append, e1]
                  have q2 : ¬ 9223372036854775807 < (t ++ (⟨#[32]⟩ : ByteArray)).size + s.size := by omega
                  have q3 : ¬ 9223372036854775807 < (t ++ (⟨#[32]⟩ : ByteArray) ++ s).size + 1 := by omega
                  have q4 : ¬ 9223372036854775807 < t.size + 1 + s.size := by omega
                  have q5 : ¬ 9223372036854775807 < t.size + 1 + s.size + 1 := by omega
                  have q6 : ¬ 9223372036854775807 ≤ t.size + 1 + s.size := by omega
                  clear e1 e2
                  refine wpAnyH_take (i := 5) (v := .string (t ++ (⟨#[32]⟩ : ByteArray) ++ s)) rfl (by kernel_rfl) (by kernel_rfl) (by kernel_rfl) (fun _ _ _ h => h) (Or.inl ⟨by kernel_rfl, by intro w hS; go_simp⟩) HSW.out ?_
                  refine wpAnyH_take (i := 6) (v := .string (t ++ (⟨#[32]⟩ : ByteArray) ++ s ++ (⟨#[10]⟩ : ByteArray))) rfl (by kernel_rfl) (by kernel_rfl) (by kernel_rfl) (fun _ _ _ h => h) (Or.inl ⟨by kernel_rfl, by intro w hS; go_simp⟩) HSW.out ?_
                  have HTX : Hid (nb (t ++ (⟨#[32]⟩ : ByteArray) ++ s ++ (⟨#[10]⟩ : ByteArray)) = txt (fun _ => t) (fun _ => (a1, a2, a3)) 1) := Lib.hid (by
                    rw [nb_append, nb_append, nb_append, HS.out]
                    show _ = [] ++ (lineN t (a1, a2, a3) ++ [10])
                    unfold lineN
                    simp [nb])
                  refine wpAnyH_ready (rs := [12]) (by kernel_rfl) (by simp) ?_
                  refine AllReadyH.cons rfl (fun K hK => ?_) AllReadyH.nil
                  go_simp
                  go_at_call 29
                  have BX : Hid (Below w.heap.size w v24) := Lib.hid (HW.out.below (B3.out.trans (HSW.out.mono B3.out.size)))
                  refine (matchPat_any _ t k f0 f1 f2 b2 (a1, a2, a3) A1 A2 (some ⟨nb1, 0, none⟩) n1 c1 n2 c2 1 (fun _ => a1) ea msg v24 HGP.out HT.out (by omega) HP.out.att HTX.out (HE.out.below BX.out) (H1.out.below BX.out) (by have := HP.out.dom; omega) (H2.out.below BX.out) ⟨HP.out.p1, by have := HP.out.p5; omega⟩ (fun i hi => (HP.out.names i hi).nm) HN1.out).mono ?_
                  rintro e w8 hone
                  obtain ⟨v, m, x, rfl, hat, hb⟩ := one_at hone
                  have HAT := Lib.hid hat
                  have HS7 : Hid (Below wr.heap.size wr w8) := Lib.hid (HSW.out.trans (hb.mono HSW.out.size))
                  clear hb hat hone HSW
                  refine hK.out _ _ HS7.out (fun HSX => ?_)
                  clear hK K HSX
                  have HSW := HS7
                  refine wpAnyH_take (i := 13) (v := .tuple #[v, m, x]) rfl (by kernel_rfl) (by kernel_rfl) (by kernel_rfl) (fun _ _ _ h => h) (Or.inl ⟨by kernel_rfl, by intro w hS; go_simp⟩) HSW.out ?_
                  refine wpAnyH_take (i := 14) (v := v) rfl (by kernel_rfl) (by kernel_rfl) (by kernel_rfl) (fun _ _ _ h => h) (Or.inl ⟨by kernel_rfl, by intro w hS; go_simp⟩) HSW.out ?_
                  refine wpAnyH_take (i := 15) (v := m) rfl (by kernel_rfl) (by kernel_rfl) (by kernel_rfl) (fun _ _ _ h => h) (Or.inl ⟨by kernel_rfl, by intro w hS; go_simp⟩) HSW.out ?_
                  refine wpAnyH_take (i := 16) (v := x) rfl (by kernel_rfl) (by kernel_rfl) (by kernel_rfl) (fun _ _ _ h => h) (Or.inl ⟨by kernel_rfl, by intro w hS; go_simp⟩) HSW.out ?_
                  refine wpAnyH_take (i := 17) (v := v) rfl (by kernel_rfl) (by kernel_rfl) (by kernel_rfl) (fun _ _ _ h => h) (Or.inl ⟨by kernel_rfl, by intro w hS; go_simp⟩) HSW.out ?_
                  refine wpAnyH_take (i := 18) (v := m) rfl (by kernel_rfl) (by kernel_rfl) (by kernel_rfl) (fun _ _ _ h => h) (Or.inl ⟨by kernel_rfl, by intro w hS; go_simp⟩) HSW.out ?_
                  refine wpAnyH_take (i := 19) (v := x) rfl (by kernel_rfl) (by kernel_rfl) (by kernel_rfl) (fun _ _ _ h => h) (Or.inl ⟨by kernel_rfl, by intro w hS; go_simp⟩) HSW.out ?_
                  refine wpAnyH_done (by kernel_rfl) ?_ _
                  go_wp2
                  go_meet
                  case rel => exact ⟨HAT.out, B3.out.trans (HS7.out.mono B3.out.size)⟩
              case rest =>
                obtain ⟨hat, hbc⟩ := hcut
                have HAT := Lib.hid hat; have BC := Lib.hid hbc
                clear hat hbc
                obtain ⟨d0, d1, d2, d3, d4, d5, d6⟩ := HW.out.at BC.out
                go_wp2_with fail
                with_reducible refine (globWhole_any A0 A1 A2 k c0 n1 c1 n2 c2 f0 f1 f2 false b2 false _ ⟨HGP.out.one, l0⟩ (by have := HGP.out.four; omega) (by have := HP.out.dom; omega) ⟨HP.out.p1, by have := HP.out.p5; omega⟩ l2 (H0.out.below (HW.out.below BC.out)) (H1.out.below (HW.out.below BC.out)) (H2.out.below (HW.out.below BC.out)) (fun i hi => ⟨(HGP.out.part i hi).1, HALL.out i hi⟩) (fun i hi => by have := (HP.out.names i hi).six; omega)).mono ?_
                rintro e w9 ⟨rfl, hb⟩
                have B9 := Lib.hid (BC.out.trans (hb.mono BC.out.size))
                have HAT9 : Hid (OneAt (if hitW k f0 b2 n1 f1 n2 f2 = true then some (readOf (a1, a2, a3)) else none) u11 u12 u13 w9 ) := Lib.hid (one_below HAT.out hb)
                clear hb HAT d0 d1 d2 d3 d4 d5 d6
                have hst : stN (readOf (a1, a2, a3)).2.1 = a2 := readOf_st HP.out.att
                generalize hitW k f0 b2 n1 f1 n2 f2 = hit at HAT9 ⊢
                cases hit with
                | false =>
                  obtain ⟨A, c, rfl, rfl, rfl⟩ := HAT9.out
                  clear HAT9 hst
                  go_upto_region 13 with (fail)
                  refine wp_region_held_drew (S := fun w' => Below w9.heap.size w9 w') (by kernel_rfl) (Below.refl _ _).drew ?_
                  intro hSW
                  generalize w9.drew = wd at hSW ⊢
                  have HSW : Hid (Below w9.heap.size w9 wd) := Lib.hid hSW
                  clear hSW
                  refine wpAnyH_take (i := 0) (v := .string ⟨#[]⟩) rfl (by kernel_rfl) (by kernel_rfl) (by kernel_rfl) (fun _ _ _ h => h) (Or.inl ⟨by kernel_rfl, by intro w hS; go_simp⟩) HSW.out ?_
                  refine wpAnyH_take (i := 1) (v := .bool true) rfl (by kernel_rfl) (by kernel_rfl) (by kernel_rfl) (fun _ _ _ h => h) (Or.inl ⟨by kernel_rfl, by intro w hS; go_simp⟩) HSW.out ?_
                  refine wpAnyH_take (i := 2) (v := .bool true) rfl (by kernel_rfl) (by kernel_rfl) (by kernel_rfl) (fun _ _ _ h => h) (Or.inl ⟨by kernel_rfl, by intro w hS; go_simp⟩) HSW.out ?_
                  refine wpAnyH_take (i := 3) (v := .bool false) rfl (by kernel_rfl) (by kernel_rfl) (by kernel_rfl) (fun _ _ _ h => h) (Or.inl ⟨by kernel_rfl, by intro w hS; go_simp⟩) HSW.out ?_
                  refine wpAnyH_take (i := 4) (v := .slice A 0 c) rfl (by kernel_rfl) (by kernel_rfl) (by kernel_rfl) (fun _ _ _ h => h) (Or.inl ⟨by kernel_rfl, by intro w hS; go_simp⟩) HSW.out ?_
                  refine wpAnyH_take (i := 5) (v := .int .i64 0) rfl (by kernel_rfl) (by kernel_rfl) (by kernel_rfl) (fun _ _ _ h => h) (Or.inl ⟨by kernel_rfl, by intro w hS; go_simp⟩) HSW.out ?_
                  refine wpAnyH_take (i := 6) (v := .bool false) rfl (by kernel_rfl) (by kernel_rfl) (by kernel_rfl) (fun _ _ _ h => h) (Or.inl ⟨by kernel_rfl, by intro w hS; go_simp⟩) HSW.out ?_
                  refine wpAnyH_take (i := 7) (v := .bool true) rfl (by kernel_rfl) (by kernel_rfl) (by kernel_rfl) (fun _ _ _ h => h) (Or.inl ⟨by kernel_rfl, by intro w hS; go_simp⟩) HSW.out ?_
                  refine wpAnyH_take (i := 8) (v := .bool true) rfl (by kernel_rfl) (by kernel_rfl) (by kernel_rfl) (fun _ _ _ h => h) (Or.inl ⟨by kernel_rfl, by intro w hS; go_simp⟩) HSW.out ?_
                  refine wpAnyH_take (i := 9) (v := .bool true) rfl (by kernel_rfl) (by kernel_rfl) (by kernel_rfl) (fun _ _ _ h => h) (Or.inl ⟨by kernel_rfl, by intro w hS; go_simp⟩) HSW.out ?_
                  refine wpAnyH_take (i := 10) (v := .bool false) rfl (by kernel_rfl) (by kernel_rfl) (by kernel_rfl) (fun _ _ _ h => h) (Or.inl ⟨by kernel_rfl, by intro w hS; go_simp⟩) HSW.out ?_
                  refine wpAnyH_take (i := 11) (v := .bool true) rfl (by kernel_rfl) (by kernel_rfl) (by kernel_rfl) (fun _ _ _ h => h) (Or.inl ⟨by kernel_rfl, by intro w hS; go_simp⟩) HSW.out ?_
                  refine wpAnyH_take (i := 12) (v := .bool true) rfl (by kernel_rfl) (by kernel_rfl) (by kernel_rfl) (fun _ _ _ h => h) (Or.inl ⟨by kernel_rfl, by intro w hS; go_simp⟩) HSW.out ?_
                  refine wpAnyH_take (i := 13) (v := undef) rfl (by kernel_rfl) (by kernel_rfl) (by kernel_rfl) (fun _ _ _ h => h) (Or.inr ⟨by kernel_rfl, rfl⟩) HSW.out ?_
                  refine wpAnyH_take (i := 14) (v := undef) rfl (by kernel_rfl) (by kernel_rfl) (by kernel_rfl) (fun _ _ _ h => h) (Or.inr ⟨by kernel_rfl, rfl⟩) HSW.out ?_
                  refine wpAnyH_take (i := 15) (v := undef) rfl (by kernel_rfl) (by kernel_rfl) (by kernel_rfl) (fun _ _ _ h => h) (Or.inr ⟨by kernel_rfl, rfl⟩) HSW.out ?_
                  refine wpAnyH_take (i := 16) (v := undef) rfl (by kernel_rfl) (by kernel_rfl) (by kernel_rfl) (fun _ _ _ h => h) (Or.inr ⟨by kernel_rfl, rfl⟩) HSW.out ?_
                  refine wpAnyH_take (i := 17) (v := undef) rfl (by kernel_rfl) (by kernel_rfl) (by kernel_rfl) (fun _ _ _ h => h) (Or.inr ⟨by kernel_rfl, rfl⟩) HSW.out ?_
                  refine wpAnyH_take (i := 18) (v := undef) rfl (by kernel_rfl) (by kernel_rfl) (by kernel_rfl) (fun _ _ _ h => h) (Or.inr ⟨by kernel_rfl, rfl⟩) HSW.out ?_
                  refine wpAnyH_take (i := 19) (v := undef) rfl (by kernel_rfl) (by kernel_rfl) (by kernel_rfl) (fun _ _ _ h => h) (Or.inr ⟨by kernel_rfl, rfl⟩) HSW.out ?_
                  refine wpAnyH_take (i := 20) (v := undef) rfl (by kernel_rfl) (by kernel_rfl) (by kernel_rfl) (fun _ _ _ h => h) (Or.inr ⟨by kernel_rfl, rfl⟩) HSW.out ?_
                  refine wpAnyH_take (i := 21) (v := .bool true) rfl (by kernel_rfl) (by kernel_rfl) (by kernel_rfl) (fun _ _ _ h => h) (Or.inl ⟨by kernel_rfl, by intro w hS; go_simp⟩) HSW.out ?_
                  refine wpAnyH_take (i := 22) (v := .bool true) rfl (by kernel_rfl) (by kernel_rfl) (by kernel_rfl) (fun _ _ _ h => h) (Or.inl ⟨by kernel_rfl, by intro w hS; go_simp⟩) HSW.out ?_
                  refine wpAnyH_take (i := 23) (v := .bool true) rfl (by kernel_rfl) (by kernel_rfl) (by kernel_rfl) (fun _ _ _ h => h) (Or.inl ⟨by kernel_rfl, by intro w hS; go_simp⟩) HSW.out ?_
                  refine wpAnyH_ready (rs := [24]) (by kernel_rfl) (by simp) ?_
                  refine AllReadyH.cons rfl (fun K hK => ?_) AllReadyH.nil
                  go_simp
                  go_at_call 23
                  refine (awake_any _).mono ?_
                  rintro e w10 ⟨rfl, hb⟩
                  have HS7 : Hid (Below w9.heap.size w9 w10) := Lib.hid (HSW.out.trans (hb.mono HSW.out.size))
                  clear hb HSW
                  refine hK.out _ _ HS7.out (fun HSX => ?_)
                  clear hK K HSX
                  have HSW := HS7
                  refine wpAnyH_take (i := 25) (v := .bool true) rfl (by kernel_rfl) (by kernel_rfl) (by kernel_rfl) (fun _ _ _ h => h) (Or.inl ⟨by kernel_rfl, by intro w hS; go_simp⟩) HSW.out ?_
                  refine wpAnyH_take (i := 26) (v := .bool true) rfl (by kernel_rfl) (by kernel_rfl) (by kernel_rfl) (fun _ _ _ h => h) (Or.inl ⟨by kernel_rfl, by intro w hS; go_simp⟩) HSW.out ?_
                  refine wpAnyH_done (by kernel_rfl) ?_ _
                  go_wp2
                  go_ret
                  exact ⟨rfl, HW.out.below (B9.out.trans (HS7.out.mono B9.out.size))⟩
                | true =>
                  obtain ⟨g, c, rfl, rfl, rfl, hgw, _, _, m2⟩ := HAT9.out
                  rw [hst] at m2
                  have ha2 : a2 < 256 := HA.out.1
                  have t2 : ((a2 : Int) == (a2 : Int)) = true := beq_self_eq_true _
                  have t5 : IntKind.i64.wrap (a2 : Int) = (a2 : Int) := by rw [IntKind.wrap_i64]; omega
                  clear HAT9 hst
                  go_upto_region 13 with (fail)
                  refine wp_region_held_drew (S := fun w' => Below w9.heap.size w9 w') (by kernel_rfl) (Below.refl _ _).drew ?_
                  intro hSW
                  generalize w9.drew = wd at hSW ⊢
                  have HSW : Hid (Below w9.heap.size w9 wd) := Lib.hid hSW
                  clear hSW
                  refine wpAnyH_take (i := 0) (v := .string ⟨#[]⟩) rfl (by kernel_rfl) (by kernel_rfl) (by kernel_rfl) (fun _ _ _ h => h) (Or.inl ⟨by kernel_rfl, by intro w hS; go_simp⟩) HSW.out ?_
                  refine wpAnyH_take (i := 1) (v := .bool true) rfl (by kernel_rfl) (by kernel_rfl) (by kernel_rfl) (fun _ _ _ h => h) (Or.inl ⟨by kernel_rfl, by intro w hS; go_simp⟩) HSW.out ?_
                  refine wpAnyH_take (i := 2) (v := .bool true) rfl (by kernel_rfl) (by kernel_rfl) (by kernel_rfl) (fun _ _ _ h => h) (Or.inl ⟨by kernel_rfl, by intro w hS; go_simp⟩) HSW.out ?_
                  refine wpAnyH_take (i := 3) (v := .bool true) rfl (by kernel_rfl) (by kernel_rfl) (by kernel_rfl) (fun _ _ _ h => h) (Or.inl ⟨by kernel_rfl, by intro w hS; go_simp⟩) HSW.out ?_
                  refine wpAnyH_take (i := 4) (v := .slice (some ⟨g, 0, none⟩) 1 c) rfl (by kernel_rfl) (by kernel_rfl) (by kernel_rfl) (fun _ _ _ h => h) (Or.inl ⟨by kernel_rfl, by intro w hS; go_simp⟩) HSW.out ?_
                  refine wpAnyH_take (i := 5) (v := .int .i64 1) rfl (by kernel_rfl) (by kernel_rfl) (by kernel_rfl) (fun _ _ _ h => h) (Or.inl ⟨by kernel_rfl, by intro w hS; go_simp⟩) HSW.out ?_
                  refine wpAnyH_take (i := 6) (v := .bool true) rfl (by kernel_rfl) (by kernel_rfl) (by kernel_rfl) (fun _ _ _ h => h) (Or.inl ⟨by kernel_rfl, by intro w hS; go_simp⟩) HSW.out ?_
                  refine wpAnyH_take (i := 7) (v := .bool true) rfl (by kernel_rfl) (by kernel_rfl) (by kernel_rfl) (fun _ _ _ h => h) (Or.inl ⟨by kernel_rfl, by intro w hS; go_simp⟩) HSW.out ?_
                  refine wpAnyH_take (i := 8) (v := .bool true) rfl (by kernel_rfl) (by kernel_rfl) (by kernel_rfl) (fun _ _ _ h => h) (Or.inl ⟨by kernel_rfl, by intro w hS; go_simp⟩) HSW.out ?_
                  refine wpAnyH_take (i := 9) (v := .bool true) rfl (by kernel_rfl) (by kernel_rfl) (by kernel_rfl) (fun _ _ _ h => h) (Or.inl ⟨by kernel_rfl, by intro w hS; go_simp⟩) HSW.out ?_
                  refine wpAnyH_take (i := 10) (v := .bool true) rfl (by kernel_rfl) (by kernel_rfl) (by kernel_rfl) (fun _ _ _ h => h) (Or.inl ⟨by kernel_rfl, by intro w hS; go_simp⟩) HSW.out ?_
                  refine wpAnyH_take (i := 11) (v := .bool false) rfl (by kernel_rfl) (by kernel_rfl) (by kernel_rfl) (fun _ _ _ h => h) (Or.inl ⟨by kernel_rfl, by intro w hS; go_simp⟩) HSW.out ?_
                  refine wpAnyH_take (i := 12) (v := .bool false) rfl (by kernel_rfl) (by kernel_rfl) (by kernel_rfl) (fun _ _ _ h => h) (Or.inl ⟨by kernel_rfl, by intro w hS; go_simp⟩) HSW.out ?_
                  refine wpAnyH_take (i := 13) (v := .slice (some ⟨g, 0, none⟩) 1 c) rfl (by kernel_rfl) (by kernel_rfl) (by kernel_rfl) (fun _ _ _ h => h) (Or.inl ⟨by kernel_rfl, by intro w hS; go_simp⟩) HSW.out ?_
                  refine wpAnyH_take (i := 14) (v := .pointer (some ⟨g, 0, none⟩)) rfl (by kernel_rfl) (by kernel_rfl) (by kernel_rfl) (fun _ _ _ h => h) (Or.inl ⟨by kernel_rfl, by intro w hS; go_simp⟩) HSW.out ?_
                  refine wpAnyH_take (i := 15) (v := .pointer (some ⟨g, 2, none⟩)) rfl (by kernel_rfl) (by kernel_rfl) (by kernel_rfl) (fun _ _ _ h => h) (Or.inl ⟨by kernel_rfl, by intro w hS; go_simp⟩) HSW.out ?_
                  refine wpAnyH_take (i := 16) (v := .int .i64 (a2 : Nat)) rfl (by kernel_rfl) (by kernel_rfl) (by kernel_rfl) (fun _ _ _ h => h) (Or.inl ⟨by kernel_rfl, by intro w hS; have hc := (hS.cell (p := ⟨g, 2, none⟩) hgw).trans m2; go_simp⟩) HSW.out ?_
                  refine wpAnyH_take (i := 17) (v := .pointer (some ⟨w.heap.size + 1, 1, none⟩)) rfl (by kernel_rfl) (by kernel_rfl) (by kernel_rfl) (fun _ _ _ h => h) (Or.inl ⟨by kernel_rfl, by intro w hS; go_simp⟩) HSW.out ?_
                  refine wpAnyH_take (i := 18) (v := .int .u8 (a2 : Nat)) rfl (by kernel_rfl) (by kernel_rfl) (by kernel_rfl) (fun _ _ _ h => h) (Or.inl ⟨by kernel_rfl, by intro w hS; obtain ⟨d0, d1, d2, d3, d4, d5, d6⟩ := HW.out.at (B9.out.trans (hS.mono B9.out.size)); go_simp⟩) HSW.out ?_
                  refine wpAnyH_take (i := 19) (v := .int .i64 (a2 : Nat)) rfl (by kernel_rfl) (by kernel_rfl) (by kernel_rfl) (fun _ _ _ h => h) (Or.inl ⟨by kernel_rfl, by intro w hS; go_simp⟩) HSW.out ?_
                  refine wpAnyH_take (i := 20) (v := .bool true) rfl (by kernel_rfl) (by kernel_rfl) (by kernel_rfl) (fun _ _ _ h => h) (Or.inl ⟨by kernel_rfl, by intro w hS; go_simp⟩) HSW.out ?_
                  refine wpAnyH_take (i := 21) (v := .bool true) rfl (by kernel_rfl) (by kernel_rfl) (by kernel_rfl) (fun _ _ _ h => h) (Or.inl ⟨by kernel_rfl, by intro w hS; go_simp⟩) HSW.out ?_
                  refine wpAnyH_take (i := 22) (v := .bool true) rfl (by kernel_rfl) (by kernel_rfl) (by kernel_rfl) (fun _ _ _ h => h) (Or.inl ⟨by kernel_rfl, by intro w hS; go_simp⟩) HSW.out ?_
                  refine wpAnyH_take (i := 23) (v := .bool true) rfl (by kernel_rfl) (by kernel_rfl) (by kernel_rfl) (fun _ _ _ h => h) (Or.inl ⟨by kernel_rfl, by intro w hS; go_simp⟩) HSW.out ?_
                  refine wpAnyH_ready (rs := [24]) (by kernel_rfl) (by simp) ?_
                  refine AllReadyH.cons rfl (fun K hK => ?_) AllReadyH.nil
                  go_simp
                  go_at_call 23
                  refine (awake_any _).mono ?_
                  rintro e w10 ⟨rfl, hb⟩
                  have HS7 : Hid (Below w9.heap.size w9 w10) := Lib.hid (HSW.out.trans (hb.mono HSW.out.size))
                  clear hb HSW
                  refine hK.out _ _ HS7.out (fun HSX => ?_)
                  clear hK K HSX
                  have HSW := HS7
                  refine wpAnyH_take (i := 25) (v := .bool true) rfl (by kernel_rfl) (by kernel_rfl) (by kernel_rfl) (fun _ _ _ h => h) (Or.inl ⟨by kernel_rfl, by intro w hS; go_simp⟩) HSW.out ?_
                  refine wpAnyH_take (i := 26) (v := .bool true) rfl (by kernel_rfl) (by kernel_rfl) (by kernel_rfl) (fun _ _ _ h => h) (Or.inl ⟨by kernel_rfl, by intro w hS; go_simp⟩) HSW.out ?_
                  refine wpAnyH_done (by kernel_rfl) ?_ _
                  go_wp2
                  go_ret
                  exact ⟨rfl, HW.out.below (B9.out.trans (HS7.out.mono B9.out.size))⟩
end Go.Proofs.YteipeagdflcjjaaDoor.Am
