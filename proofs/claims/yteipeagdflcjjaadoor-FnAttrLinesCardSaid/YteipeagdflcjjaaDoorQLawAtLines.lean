/- FnAttrLines: the walk. -/
import Derived.Test.YteipeagdflcjjaaDoorQPartD
import Derived.Test.YteipeagdflcjjaaDoorQAmO
import Derived.Test.YteipeagdflcjjaaDoorStepM
import Derived.BigQuiet
import Derived.Deep.RegionHeld
namespace Go.Proofs.YteipeagdflcjjaaDoor.Am
open Go.RowKit
set_option linter.unusedSimpArgs false
set_option linter.unusedVariables false

/-- What the lines told so far are. -/
def LinesOk (k : Nat) (f : Nat → ByteArray) (g : Nat → AttrT) : Prop := ∀ i, i < k → GoodLine (f i) (g i) ∧ (g i).1 = (g 0).1
theorem LinesOk.more {k : Nat} {f : Nat → ByteArray} {g : Nat → AttrT} (h : LinesOk k f g) (h1 : GoodLine (f k) (g k)) (h2 : (g k).1 = (g 0).1) : LinesOk (k + 1) f g := fun i hi => by
  by_cases e : i = k
  · subst e; exact ⟨h1, h2⟩
  · exact h i (by omega)
theorem GAs.one {w : World} {b off n k : Nat} {g : Nat → AttrT} (h : GAs w (some ⟨b, off, none⟩) n g) (hk : k < n) : GAs w (some ⟨b, off + k * 3, none⟩) 1 (fun _ => g k) := fun j hj => by
  obtain ⟨b', off', e, h1, h2⟩ := h k hk
  injection e with e
  injection e with e1 e2
  subst e1; subst e2
  obtain rfl : j = 0 := by omega
  exact ⟨b, off + k * 3, rfl, h1, by simpa using h2⟩
def lastV (hit : Nat → Bool) (k : Nat) : Value := match lastHit hit k with
  | none => .int .i64 (-1)
  | some j => .int .i64 (j : Nat)

theorem lastV_succ (hit : Nat → Bool) (k : Nat) : lastV hit (k + 1) = if hit k = true then .int .i64 (k : Nat) else lastV hit k := by
  unfold lastV
  rw [show lastHit hit (k + 1) = if hit k = true then some k else lastHit hit k from rfl]
  by_cases h : hit k = true
  · rw [if_pos h, if_pos h]
  · rw [if_neg h, if_neg h]
theorem lastV_none {hit : Nat → Bool} {k : Nat} (h : lastHit hit k = none) : lastV hit k = .int .i64 (-1) := by unfold lastV; rw [h]
theorem lastV_some {hit : Nat → Bool} {k j : Nat} (h : lastHit hit k = some j) : lastV hit k = .int .i64 (j : Nat) := by unfold lastV; rw [h]

/-- What the last question reads. -/
def Six (w : World) (g b1 o1 j a2 : Nat) (nm rv a3 : ByteArray) : Prop :=
  (g < w.heap.size ∧ b1 < w.heap.size) ∧ w.cell? ⟨g, 0, none⟩ = some (.string nm) ∧ w.cell? ⟨b1, o1, none⟩ = some (.string nm) ∧ w.cell? ⟨g, 2, none⟩ = some (.int .i64 (a2 : Nat)) ∧
  w.cell? ⟨b1, o1 + j * 3 + 1, none⟩ = some (.int .u8 (a2 : Nat)) ∧ w.cell? ⟨g, 1, none⟩ = some (.string rv) ∧ w.cell? ⟨b1, o1 + j * 3 + 2, none⟩ = some (.string a3)
theorem keep_six {V w' w'' : World} {g b1 o1 j a2 : Nat} {nm rv a3 : ByteArray} {R : Prop} (h : Six V g b1 o1 j a2 nm rv a3) (hs : Below V.heap.size V w' ∧ R) (hb : Below w'.heap.size w' w'') :
    Below V.heap.size V w'' ∧ w''.cell? ⟨g, 0, none⟩ = some (.string nm) ∧ w''.cell? ⟨b1, o1, none⟩ = some (.string nm) ∧ w''.cell? ⟨g, 2, none⟩ = some (.int .i64 (a2 : Nat)) ∧
    w''.cell? ⟨b1, o1 + j * 3 + 1, none⟩ = some (.int .u8 (a2 : Nat)) ∧ w''.cell? ⟨g, 1, none⟩ = some (.string rv) ∧ w''.cell? ⟨b1, o1 + j * 3 + 2, none⟩ = some (.string a3) := by
  obtain ⟨⟨l1, l2⟩, c1, c2, c3, c4, c5, c6⟩ := h
  have hB := hs.1.trans (hb.mono hs.1.size)
  exact ⟨hB, (hB.cell (p := ⟨g, 0, none⟩) l1).trans c1, (hB.cell (p := ⟨b1, o1, none⟩) l2).trans c2, (hB.cell (p := ⟨g, 2, none⟩) l1).trans c3, (hB.cell (p := ⟨b1, o1 + j * 3 + 1, none⟩) l2).trans c4, (hB.cell (p := ⟨g, 1, none⟩) l1).trans c5, (hB.cell (p := ⟨b1, o1 + j * 3 + 2, none⟩) l2).trans c6⟩
theorem below_of {V w' : World} {R : Prop} (h : Below V.heap.size V w' ∧ R) : Below V.heap.size V w' := h.1

set_option maxRecDepth 100000 in
set_option maxHeartbeats 8000000 in
theorem lawAtLines_any (A0 A1 A2 : Option Addr) (n0 c0 n1 c1 n2 c2 : Nat) (f0 f2 : Nat → ByteArray) (g1 : Nat → AttrT) (ea : Addr) (msg : ByteArray) (w : World)
    (m0 : n0 ≤ maxLen) (h0 : Strs w A0 n0 f0) (m1 : n1 ≤ c1) (m1c : c1 ≤ maxLen) (h1 : GAs w A1 n1 g1) (m2 : n2 ≤ maxLen) (h2 : Strs w A2 n2 f2) (hE : ErrAt w 6 ea msg) :
    Calls Tryd.prog 7 #[.slice A0 n0 c0, .slice A1 n1 c1, .slice A2 n2 c2] w (TrueBelow w) := by
  have H0 := Lib.hid h0; have H1 := Lib.hid h1; have H2 := Lib.hid h2; have HE := Lib.hid hE
  clear h0 h1 h2 hE
  go_enter Tryd.func7, Tryd.ntmps7
  go_upto_region 1 with (fail)
  go_cut [26] (fun v wx => ∃ B : Bool, v = .bool B ∧ (B = false → (n0 ≤ 2147483647 ∧ ∀ i, i < n0 → (f0 i).size ≤ 2147483647) ∧ F29 n1 g1 ∧ (n2 ≤ 2147483647 ∧ ∀ i, i < n2 → (f2 i).size ≤ 2147483647)) ∧ Below w.heap.size w wx)
  case first =>
    try clear_value *
    as_aux_lemma =>
    go_wp2_with fail
    with_reducible refine (fits3_any _ _ _ f0 _ m0 H0.out).mono ?_
    rintro e w1 ⟨r1, rfl, hr1, rfl⟩
    have HR1 := Lib.hid hr1; clear hr1
    cases r1 with
    | false =>
      go_wp2
      go_meet
      case rel => exact ⟨true, rfl, fun h => (by cases h), Below.refl _ _⟩
    | true =>
      go_wp2_with fail
      with_reducible refine (fits29_any _ _ _ g1 _ (Nat.le_trans m1 m1c) H1.out).mono ?_
      rintro e w2 ⟨r2, rfl, hr2, hb⟩
      have HR2 := Lib.hid hr2; have HB2 := Lib.hid hb; clear hr2 hb
      cases r2 with
      | false =>
        go_wp2
        go_meet
        case rel => exact ⟨true, rfl, fun h => (by cases h), HB2.out⟩
      | true =>
        go_wp2_with fail
        with_reducible refine (fits3_any _ _ _ f2 _ m2 (H2.out.below HB2.out)).mono ?_
        rintro e w3 ⟨r3, rfl, hr3, rfl⟩
        have HR3 := Lib.hid hr3; clear hr3
        cases r3 with
        | false =>
          go_wp2
          go_meet
          case rel => exact ⟨true, rfl, fun h => (by cases h), HB2.out⟩
        | true =>
          go_wp2
          go_meet
          case rel => exact ⟨false, rfl, fun _ => ⟨(by first | exact HR1.out rfl | exact HR1.out trivial), (by first | exact HR2.out rfl | exact HR2.out trivial), (by first | exact HR3.out rfl | exact HR3.out trivial)⟩, HB2.out⟩
  case rest =>
    obtain ⟨B, rfl, hB, hb⟩ := hcut
    have B1 := Lib.hid hb; clear hb
    cases B with
    | true =>
      clear hB
      go_wp2
      go_ret
      exact ⟨rfl, B1.out⟩
    | false =>
      obtain ⟨⟨s0, hs0⟩, ⟨s1, hs1⟩, ⟨s2, hs2⟩⟩ := hB rfl
      have HS0 := Lib.hid hs0; have HS1 := Lib.hid hs1; have HS2 := Lib.hid hs2
      clear hB hs0 hs1 hs2
      go_upto_region 3 with (fail)
      go_cut [46] (fun v wx => ∃ B : Bool, v = .bool B ∧ (B = false → (1 ≤ n0 ∧ n0 ≤ 5 ∧ n1 = n0) ∧ (1 ≤ n2 ∧ n2 ≤ 5 ∧ ∀ i, i < n2 → NameOk (f2 i))) ∧ wx = wc)
      case first =>
        try clear_value *
        as_aux_lemma =>
        by_cases e1 : n0 < 1
        · have e1' : (n0 : Int) < 1 := by omega
          go_wp2
          go_meet
          case rel => exact ⟨true, rfl, fun h => (by cases h), rfl⟩
        have e1' : ¬ (n0 : Int) < 1 := by omega
        by_cases e2 : 5 < n0
        · have e2' : (5 : Int) < n0 := by omega
          go_wp2
          go_meet
          case rel => exact ⟨true, rfl, fun h => (by cases h), rfl⟩
        have e2' : ¬ (5 : Int) < n0 := by omega
        by_cases e3 : n1 = n0
        · have e3' : ((n1 : Int) != (n0 : Int)) = false := by rw [e3]; exact bne_self_eq_false _
          have HE3 := Lib.hid e3; clear e3
          go_wp2_with fail
          with_reducible refine (isGlobPath_any _ _ _ f2 _ s2 (H2.out.below B1.out) HS2.out).mono ?_
          rintro e w4 ⟨r4, rfl, hr4, rfl⟩
          have HR4 := Lib.hid hr4; clear hr4
          cases r4 with
          | false =>
            go_wp2
            go_meet
            case rel => exact ⟨true, rfl, fun h => (by cases h), rfl⟩
          | true =>
            go_wp2
            go_meet
            case rel => exact ⟨false, rfl, fun _ => ⟨⟨by omega, by omega, HE3.out⟩, (by first | exact HR4.out rfl | exact HR4.out trivial)⟩, rfl⟩
        · have e3' : ((n1 : Int) != (n0 : Int)) = true := by simp; omega
          go_wp2
          go_meet
          case rel => exact ⟨true, rfl, fun h => (by cases h), rfl⟩
      case rest =>
        obtain ⟨B, rfl, hB, rfl⟩ := hcut
        cases B with
        | true =>
          clear hB
          go_wp2_with fail
          with_reducible refine (awake_any _).mono ?_
          rintro e w3 ⟨rfl, hb⟩
          have B3 := Lib.hid (B1.out.trans (hb.mono B1.out.size)); clear hb
          go_wp2
          go_ret
          exact ⟨rfl, B3.out⟩
        | false =>
          obtain ⟨⟨p1, p5, rfl⟩, q1, q5, hnm⟩ := hB rfl
          have HNM := Lib.hid hnm
          clear hB hnm
          obtain ⟨b1, o1, hA1, hb1w, _⟩ := H1.out 0 (by omega)
          have HB1W := Lib.hid hb1w; clear hb1w
          subst hA1
          obtain ⟨b2, o2, hA2, _⟩ := H2.out 0 (by omega)
          subst hA2
          generalize hf2l : f2 (n2 - 1) = last
          have HLAST := Lib.hid hf2l
          have HNL : Hid (NameOk last) := Lib.hid (by rw [← hf2l]; exact HNM.out _ (by omega))
          clear hf2l
          have B1' := Lib.hid B1.out
          go_upto_region 8 with (fail)
          go_loopw [7, 8, 50] (fun tv av i wr => ∃ (k : Nat) (t : ByteArray), k ≤ n1 ∧ i = .int .i64 (k : Nat) ∧ tv = .string t ∧ nb t = txt f0 g1 k ∧ av = lastV (fun i => MR (f0 i) last) k ∧ LinesOk k f0 g1 ∧ Below w.heap.size w wr) (fun _ _ i _ => n1 - (intOf i).toNat)
          case atStart => exact ⟨0, ⟨#[]⟩, Nat.zero_le _, rfl, rfl, rfl, rfl, fun i hi => absurd hi (Nat.not_lt_zero _), B1.out⟩
          case round =>
            obtain ⟨k, t, hk, rfl, rfl, ht, rfl, hok, hb⟩ := hrel
            have HT := Lib.hid ht; have HOK := Lib.hid hok; have B4 := Lib.hid hb
            clear ht hok hb
            by_cases hlt : k < n1
            · have hltI : (k : Int) < n1 := by omega
              obtain ⟨b0, o0, rfl, _, hc0⟩ := (H0.out.below B4.out).at k hlt
              obtain ⟨_, _, hA, hbl, kc0, kc1, kc2, kx, kn, kv⟩ := (H1.out.below B4.out) k hlt
              injection hA with hA
              injection hA with hA hA2
              subst hA; subst hA2
              obtain ⟨_, _, hA, _, lc0, _⟩ := (H1.out.below B4.out) 0 (by omega)
              injection hA with hA
              injection hA with hA hA2
              subst hA; subst hA2
              rw [Nat.zero_mul, Nat.add_zero] at lc0
              have HC := Lib.hid (And.intro kc0 (And.intro kc1 (And.intro kc2 lc0)))
              have HBL := Lib.hid hbl
              have HG4 : Hid (GAs wr (some ⟨b1, o1, none⟩) n1 g1) := Lib.hid (H1.out.below B4.out)
              have HG4 : Hid (GAs wr (some ⟨b1, o1, none⟩) n1 g1) := Lib.hid (H1.out.below B4.out)
              clear kc0 kc1 kc2 lc0 hbl
              go_upto_region 10 with (fail)
              go_cut [90] (fun v wx => ∃ B : Bool, v = .bool B ∧ (B = false → GoodLine (f0 k) (g1 k) ∧ (g1 k).1 = (g1 0).1) ∧ Below wr.heap.size wr wx)
              case first =>
                refine wp_region_any (by kernel_rfl) ?_
                change wpAny _ _ _ _ _ _ _ (World.drew _)
                refine startR (n := 36) (T := [0, 1, 2, 6, 8, 24, 40, 72, 128, 384, 640, 1152, 2048, 6144, 10240, 18432, 32768, 32768, 32768, 294912, 753664, 1081344, 2129920, 4227072, 10485760, 16777216, 16777216, 117440512, 150994944, 285212672, 16777216, 1090519040, 2164260864, 4311744512, 9143582720, 17196646400]) (A := [68719476732, 68719476728, 68719476721, 68719476611, 68719476679, 68719476615, 68719476503, 68719474751, 68719475839, 68719474815, 68719473023, 68719444991, 68719462399, 68719446015, 68719417343, 68702715903, 68718329855, 68718264319, 68718657535, 68717608959, 68715577343, 68712103935, 68704763903, 68690083839, 8388607, 68534927359, 68501372927, 68199383039, 67763175423, 50717523967, 65481474047, 61186506751, 53670313983, 38637928447, 8036286463, 17163091967]) ⟨by kernel_rfl, by kernel_rfl, by kernel_rfl, by kernel_rfl, by kernel_rfl⟩ (fun HRM => ?_)
                refine takeM HRM.out (m2 := 1) (i := 0) (v := .string (f0 k)) rfl (by kernel_rfl) (fun _ _ _ h => h) (Or.inl ⟨by kernel_rfl, by intro w; go_simp⟩) ?_
                refine wpAny_ready (rs := [1]) (HRM.out.list _ (by kernel_rfl)) (by simp) ?_
                refine AllReady.cons rfl (fun K hK => ?_) AllReady.nil
                go_simp
                go_at_call 16
                refine (isGlobPartD_any (f0 k) _ (HS0.out k hlt)).mono ?_
                rintro e w5 ⟨r1, rfl, hr1, hb⟩
                have HR1 := Lib.hid hr1; have HB5 : Hid (Below wr.heap.size wr w5) := Lib.hid (by first | exact hb | exact (Below.refl _ _).drew.trans hb)
                clear hr1 hb
                refine hK _ _ ?_
                refine behindM (m2 := 3) (by kernel_rfl) ?_
                clear hK K
                cases r1 with
                | false =>
                  refine takeM HRM.out (m2 := 7) (i := 2) (v := .bool true) rfl (by kernel_rfl) (fun _ _ _ h => h) (Or.inl ⟨by kernel_rfl, by intro w; go_simp⟩) ?_
                  refine takeM HRM.out (m2 := 15) (i := 3) (v := .bool true) rfl (by kernel_rfl) (fun _ _ _ h => h) (Or.inl ⟨by kernel_rfl, by intro w; go_simp⟩) ?_
                  refine takeM HRM.out (m2 := 31) (i := 4) (v := undef) rfl (by kernel_rfl) (fun _ _ _ h => h) (Or.inr ⟨by kernel_rfl, rfl⟩) ?_
                  refine takeM HRM.out (m2 := 63) (i := 5) (v := undef) rfl (by kernel_rfl) (fun _ _ _ h => h) (Or.inr ⟨by kernel_rfl, rfl⟩) ?_
                  refine takeM HRM.out (m2 := 127) (i := 6) (v := .bool true) rfl (by kernel_rfl) (fun _ _ _ h => h) (Or.inl ⟨by kernel_rfl, by intro w; go_simp⟩) ?_
                  refine takeM HRM.out (m2 := 255) (i := 7) (v := .bool true) rfl (by kernel_rfl) (fun _ _ _ h => h) (Or.inl ⟨by kernel_rfl, by intro w; go_simp⟩) ?_
                  refine takeM HRM.out (m2 := 511) (i := 8) (v := undef) rfl (by kernel_rfl) (fun _ _ _ h => h) (Or.inr ⟨by kernel_rfl, rfl⟩) ?_
                  refine takeM HRM.out (m2 := 1023) (i := 9) (v := undef) rfl (by kernel_rfl) (fun _ _ _ h => h) (Or.inr ⟨by kernel_rfl, rfl⟩) ?_
                  refine takeM HRM.out (m2 := 2047) (i := 10) (v := .bool true) rfl (by kernel_rfl) (fun _ _ _ h => h) (Or.inl ⟨by kernel_rfl, by intro w; go_simp⟩) ?_
                  refine takeM HRM.out (m2 := 4095) (i := 11) (v := .bool true) rfl (by kernel_rfl) (fun _ _ _ h => h) (Or.inl ⟨by kernel_rfl, by intro w; go_simp⟩) ?_
                  refine takeM HRM.out (m2 := 8191) (i := 12) (v := undef) rfl (by kernel_rfl) (fun _ _ _ h => h) (Or.inr ⟨by kernel_rfl, rfl⟩) ?_
                  refine takeM HRM.out (m2 := 16383) (i := 13) (v := undef) rfl (by kernel_rfl) (fun _ _ _ h => h) (Or.inr ⟨by kernel_rfl, rfl⟩) ?_
                  refine takeM HRM.out (m2 := 32767) (i := 14) (v := .bool true) rfl (by kernel_rfl) (fun _ _ _ h => h) (Or.inl ⟨by kernel_rfl, by intro w; go_simp⟩) ?_
                  refine takeM HRM.out (m2 := 65535) (i := 15) (v := .bool true) rfl (by kernel_rfl) (fun _ _ _ h => h) (Or.inl ⟨by kernel_rfl, by intro w; go_simp⟩) ?_
                  refine takeM HRM.out (m2 := 131071) (i := 16) (v := undef) rfl (by kernel_rfl) (fun _ _ _ h => h) (Or.inr ⟨by kernel_rfl, rfl⟩) ?_
                  refine takeM HRM.out (m2 := 262143) (i := 17) (v := undef) rfl (by kernel_rfl) (fun _ _ _ h => h) (Or.inr ⟨by kernel_rfl, rfl⟩) ?_
                  refine takeM HRM.out (m2 := 524287) (i := 18) (v := undef) rfl (by kernel_rfl) (fun _ _ _ h => h) (Or.inr ⟨by kernel_rfl, rfl⟩) ?_
                  refine takeM HRM.out (m2 := 1048575) (i := 19) (v := undef) rfl (by kernel_rfl) (fun _ _ _ h => h) (Or.inr ⟨by kernel_rfl, rfl⟩) ?_
                  refine takeM HRM.out (m2 := 2097151) (i := 20) (v := undef) rfl (by kernel_rfl) (fun _ _ _ h => h) (Or.inr ⟨by kernel_rfl, rfl⟩) ?_
                  refine takeM HRM.out (m2 := 4194303) (i := 21) (v := undef) rfl (by kernel_rfl) (fun _ _ _ h => h) (Or.inr ⟨by kernel_rfl, rfl⟩) ?_
                  refine takeM HRM.out (m2 := 8388607) (i := 22) (v := undef) rfl (by kernel_rfl) (fun _ _ _ h => h) (Or.inr ⟨by kernel_rfl, rfl⟩) ?_
                  refine takeM HRM.out (m2 := 16777215) (i := 23) (v := .bool true) rfl (by kernel_rfl) (fun _ _ _ h => h) (Or.inl ⟨by kernel_rfl, by intro w; go_simp⟩) ?_
                  refine takeM HRM.out (m2 := 33554431) (i := 24) (v := .bool true) rfl (by kernel_rfl) (fun _ _ _ h => h) (Or.inl ⟨by kernel_rfl, by intro w; go_simp⟩) ?_
                  refine takeM HRM.out (m2 := 67108863) (i := 25) (v := undef) rfl (by kernel_rfl) (fun _ _ _ h => h) (Or.inr ⟨by kernel_rfl, rfl⟩) ?_
                  refine takeM HRM.out (m2 := 134217727) (i := 26) (v := undef) rfl (by kernel_rfl) (fun _ _ _ h => h) (Or.inr ⟨by kernel_rfl, rfl⟩) ?_
                  refine takeM HRM.out (m2 := 268435455) (i := 27) (v := undef) rfl (by kernel_rfl) (fun _ _ _ h => h) (Or.inr ⟨by kernel_rfl, rfl⟩) ?_
                  refine takeM HRM.out (m2 := 536870911) (i := 28) (v := undef) rfl (by kernel_rfl) (fun _ _ _ h => h) (Or.inr ⟨by kernel_rfl, rfl⟩) ?_
                  refine takeM HRM.out (m2 := 1073741823) (i := 29) (v := undef) rfl (by kernel_rfl) (fun _ _ _ h => h) (Or.inr ⟨by kernel_rfl, rfl⟩) ?_
                  refine takeM HRM.out (m2 := 2147483647) (i := 30) (v := undef) rfl (by kernel_rfl) (fun _ _ _ h => h) (Or.inr ⟨by kernel_rfl, rfl⟩) ?_
                  refine takeM HRM.out (m2 := 4294967295) (i := 31) (v := undef) rfl (by kernel_rfl) (fun _ _ _ h => h) (Or.inr ⟨by kernel_rfl, rfl⟩) ?_
                  refine takeM HRM.out (m2 := 8589934591) (i := 32) (v := undef) rfl (by kernel_rfl) (fun _ _ _ h => h) (Or.inr ⟨by kernel_rfl, rfl⟩) ?_
                  refine takeM HRM.out (m2 := 17179869183) (i := 33) (v := undef) rfl (by kernel_rfl) (fun _ _ _ h => h) (Or.inr ⟨by kernel_rfl, rfl⟩) ?_
                  refine takeM HRM.out (m2 := 34359738367) (i := 34) (v := undef) rfl (by kernel_rfl) (fun _ _ _ h => h) (Or.inr ⟨by kernel_rfl, rfl⟩) ?_
                  refine takeM HRM.out (m2 := 68719476735) (i := 35) (v := .bool true) rfl (by kernel_rfl) (fun _ _ _ h => h) (Or.inl ⟨by kernel_rfl, by intro w; go_simp⟩) ?_
                  refine wpAny_done (HRM.out.list _ (by kernel_rfl)) ?_ _
                  go_wp2
                  go_meet
                  case rel => exact ⟨true, rfl, fun h => (by cases h), HB5.out⟩
                | true =>
                  have hq1 := beq_str (f0 k) [42, 42]
                  have HNB : Hid ((nb (f0 k) == ([42, 42] : List UInt8).map UInt8.toNat) = false → GoodPart (f0 k) ∧ NoDD (f0 k)) := Lib.hid fun h => by
                    rcases HR1.out rfl with h2 | h2
                    · rw [h2] at h; exact absurd h (by decide)
                    · exact h2
                  generalize (nb (f0 k) == ([42, 42] : List UInt8).map UInt8.toNat) = x1 at hq1 HNB
                  have hq2 := beq_str (f0 k) [46]
                  have hq3 := beq_str (f0 k) [46, 46]
                  generalize (nb (f0 k) == ([46] : List UInt8).map UInt8.toNat) = x2 at hq2
                  generalize (nb (f0 k) == ([46, 46] : List UInt8).map UInt8.toNat) = x3 at hq3
                  refine takeM HRM.out (m2 := 7) (i := 2) (v := .bool false) rfl (by kernel_rfl) (fun _ _ _ h => h) (Or.inl ⟨by kernel_rfl, by intro w; go_simp⟩) ?_
                  refine takeM HRM.out (m2 := 15) (i := 3) (v := .bool false) rfl (by kernel_rfl) (fun _ _ _ h => h) (Or.inl ⟨by kernel_rfl, by intro w; go_simp⟩) ?_
                  refine takeM HRM.out (m2 := 31) (i := 4) (v := .string (f0 k)) rfl (by kernel_rfl) (fun _ _ _ h => h) (Or.inl ⟨by kernel_rfl, by intro w; go_simp⟩) ?_
                  cases x1 with
                  | true =>
                    refine takeM HRM.out (m2 := 63) (i := 5) (v := .bool true) rfl (by kernel_rfl) (fun _ _ _ h => h) (Or.inl ⟨by kernel_rfl, by intro w; go_simp⟩) ?_
                    refine takeM HRM.out (m2 := 127) (i := 6) (v := .bool true) rfl (by kernel_rfl) (fun _ _ _ h => h) (Or.inl ⟨by kernel_rfl, by intro w; go_simp⟩) ?_
                    refine takeM HRM.out (m2 := 255) (i := 7) (v := .bool true) rfl (by kernel_rfl) (fun _ _ _ h => h) (Or.inl ⟨by kernel_rfl, by intro w; go_simp⟩) ?_
                    refine takeM HRM.out (m2 := 511) (i := 8) (v := undef) rfl (by kernel_rfl) (fun _ _ _ h => h) (Or.inr ⟨by kernel_rfl, rfl⟩) ?_
                    refine takeM HRM.out (m2 := 1023) (i := 9) (v := undef) rfl (by kernel_rfl) (fun _ _ _ h => h) (Or.inr ⟨by kernel_rfl, rfl⟩) ?_
                    refine takeM HRM.out (m2 := 2047) (i := 10) (v := .bool true) rfl (by kernel_rfl) (fun _ _ _ h => h) (Or.inl ⟨by kernel_rfl, by intro w; go_simp⟩) ?_
                    refine takeM HRM.out (m2 := 4095) (i := 11) (v := .bool true) rfl (by kernel_rfl) (fun _ _ _ h => h) (Or.inl ⟨by kernel_rfl, by intro w; go_simp⟩) ?_
                    refine takeM HRM.out (m2 := 8191) (i := 12) (v := undef) rfl (by kernel_rfl) (fun _ _ _ h => h) (Or.inr ⟨by kernel_rfl, rfl⟩) ?_
                    refine takeM HRM.out (m2 := 16383) (i := 13) (v := undef) rfl (by kernel_rfl) (fun _ _ _ h => h) (Or.inr ⟨by kernel_rfl, rfl⟩) ?_
                    refine takeM HRM.out (m2 := 32767) (i := 14) (v := .bool true) rfl (by kernel_rfl) (fun _ _ _ h => h) (Or.inl ⟨by kernel_rfl, by intro w; go_simp⟩) ?_
                    refine takeM HRM.out (m2 := 65535) (i := 15) (v := .bool true) rfl (by kernel_rfl) (fun _ _ _ h => h) (Or.inl ⟨by kernel_rfl, by intro w; go_simp⟩) ?_
                    refine takeM HRM.out (m2 := 131071) (i := 16) (v := undef) rfl (by kernel_rfl) (fun _ _ _ h => h) (Or.inr ⟨by kernel_rfl, rfl⟩) ?_
                    refine takeM HRM.out (m2 := 262143) (i := 17) (v := undef) rfl (by kernel_rfl) (fun _ _ _ h => h) (Or.inr ⟨by kernel_rfl, rfl⟩) ?_
                    refine takeM HRM.out (m2 := 524287) (i := 18) (v := undef) rfl (by kernel_rfl) (fun _ _ _ h => h) (Or.inr ⟨by kernel_rfl, rfl⟩) ?_
                    refine takeM HRM.out (m2 := 1048575) (i := 19) (v := undef) rfl (by kernel_rfl) (fun _ _ _ h => h) (Or.inr ⟨by kernel_rfl, rfl⟩) ?_
                    refine takeM HRM.out (m2 := 2097151) (i := 20) (v := undef) rfl (by kernel_rfl) (fun _ _ _ h => h) (Or.inr ⟨by kernel_rfl, rfl⟩) ?_
                    refine takeM HRM.out (m2 := 4194303) (i := 21) (v := undef) rfl (by kernel_rfl) (fun _ _ _ h => h) (Or.inr ⟨by kernel_rfl, rfl⟩) ?_
                    refine takeM HRM.out (m2 := 8388607) (i := 22) (v := undef) rfl (by kernel_rfl) (fun _ _ _ h => h) (Or.inr ⟨by kernel_rfl, rfl⟩) ?_
                    refine takeM HRM.out (m2 := 16777215) (i := 23) (v := .bool true) rfl (by kernel_rfl) (fun _ _ _ h => h) (Or.inl ⟨by kernel_rfl, by intro w; go_simp⟩) ?_
                    refine takeM HRM.out (m2 := 33554431) (i := 24) (v := .bool true) rfl (by kernel_rfl) (fun _ _ _ h => h) (Or.inl ⟨by kernel_rfl, by intro w; go_simp⟩) ?_
                    refine takeM HRM.out (m2 := 67108863) (i := 25) (v := undef) rfl (by kernel_rfl) (fun _ _ _ h => h) (Or.inr ⟨by kernel_rfl, rfl⟩) ?_
                    refine takeM HRM.out (m2 := 134217727) (i := 26) (v := undef) rfl (by kernel_rfl) (fun _ _ _ h => h) (Or.inr ⟨by kernel_rfl, rfl⟩) ?_
                    refine takeM HRM.out (m2 := 268435455) (i := 27) (v := undef) rfl (by kernel_rfl) (fun _ _ _ h => h) (Or.inr ⟨by kernel_rfl, rfl⟩) ?_
                    refine takeM HRM.out (m2 := 536870911) (i := 28) (v := undef) rfl (by kernel_rfl) (fun _ _ _ h => h) (Or.inr ⟨by kernel_rfl, rfl⟩) ?_
                    refine takeM HRM.out (m2 := 1073741823) (i := 29) (v := undef) rfl (by kernel_rfl) (fun _ _ _ h => h) (Or.inr ⟨by kernel_rfl, rfl⟩) ?_
                    refine takeM HRM.out (m2 := 2147483647) (i := 30) (v := undef) rfl (by kernel_rfl) (fun _ _ _ h => h) (Or.inr ⟨by kernel_rfl, rfl⟩) ?_
                    refine takeM HRM.out (m2 := 4294967295) (i := 31) (v := undef) rfl (by kernel_rfl) (fun _ _ _ h => h) (Or.inr ⟨by kernel_rfl, rfl⟩) ?_
                    refine takeM HRM.out (m2 := 8589934591) (i := 32) (v := undef) rfl (by kernel_rfl) (fun _ _ _ h => h) (Or.inr ⟨by kernel_rfl, rfl⟩) ?_
                    refine takeM HRM.out (m2 := 17179869183) (i := 33) (v := undef) rfl (by kernel_rfl) (fun _ _ _ h => h) (Or.inr ⟨by kernel_rfl, rfl⟩) ?_
                    refine takeM HRM.out (m2 := 34359738367) (i := 34) (v := undef) rfl (by kernel_rfl) (fun _ _ _ h => h) (Or.inr ⟨by kernel_rfl, rfl⟩) ?_
                    refine takeM HRM.out (m2 := 68719476735) (i := 35) (v := .bool true) rfl (by kernel_rfl) (fun _ _ _ h => h) (Or.inl ⟨by kernel_rfl, by intro w; go_simp⟩) ?_
                    refine wpAny_done (HRM.out.list _ (by kernel_rfl)) ?_ _
                    go_wp2
                    go_meet
                    case rel => exact ⟨true, rfl, fun h => (by cases h), HB5.out⟩
                  | false =>
                  refine takeM HRM.out (m2 := 63) (i := 5) (v := .bool false) rfl (by kernel_rfl) (fun _ _ _ h => h) (Or.inl ⟨by kernel_rfl, by intro w; go_simp⟩) ?_
                  refine takeM HRM.out (m2 := 127) (i := 6) (v := .bool false) rfl (by kernel_rfl) (fun _ _ _ h => h) (Or.inl ⟨by kernel_rfl, by intro w; go_simp⟩) ?_
                  refine takeM HRM.out (m2 := 255) (i := 7) (v := .bool false) rfl (by kernel_rfl) (fun _ _ _ h => h) (Or.inl ⟨by kernel_rfl, by intro w; go_simp⟩) ?_
                  refine takeM HRM.out (m2 := 511) (i := 8) (v := .string (f0 k)) rfl (by kernel_rfl) (fun _ _ _ h => h) (Or.inl ⟨by kernel_rfl, by intro w; go_simp⟩) ?_
                  cases x2 with
                  | true =>
                    refine takeM HRM.out (m2 := 1023) (i := 9) (v := .bool true) rfl (by kernel_rfl) (fun _ _ _ h => h) (Or.inl ⟨by kernel_rfl, by intro w; go_simp⟩) ?_
                    refine takeM HRM.out (m2 := 2047) (i := 10) (v := .bool true) rfl (by kernel_rfl) (fun _ _ _ h => h) (Or.inl ⟨by kernel_rfl, by intro w; go_simp⟩) ?_
                    refine takeM HRM.out (m2 := 4095) (i := 11) (v := .bool true) rfl (by kernel_rfl) (fun _ _ _ h => h) (Or.inl ⟨by kernel_rfl, by intro w; go_simp⟩) ?_
                    refine takeM HRM.out (m2 := 8191) (i := 12) (v := undef) rfl (by kernel_rfl) (fun _ _ _ h => h) (Or.inr ⟨by kernel_rfl, rfl⟩) ?_
                    refine takeM HRM.out (m2 := 16383) (i := 13) (v := undef) rfl (by kernel_rfl) (fun _ _ _ h => h) (Or.inr ⟨by kernel_rfl, rfl⟩) ?_
                    refine takeM HRM.out (m2 := 32767) (i := 14) (v := .bool true) rfl (by kernel_rfl) (fun _ _ _ h => h) (Or.inl ⟨by kernel_rfl, by intro w; go_simp⟩) ?_
                    refine takeM HRM.out (m2 := 65535) (i := 15) (v := .bool true) rfl (by kernel_rfl) (fun _ _ _ h => h) (Or.inl ⟨by kernel_rfl, by intro w; go_simp⟩) ?_
                    refine takeM HRM.out (m2 := 131071) (i := 16) (v := undef) rfl (by kernel_rfl) (fun _ _ _ h => h) (Or.inr ⟨by kernel_rfl, rfl⟩) ?_
                    refine takeM HRM.out (m2 := 262143) (i := 17) (v := undef) rfl (by kernel_rfl) (fun _ _ _ h => h) (Or.inr ⟨by kernel_rfl, rfl⟩) ?_
                    refine takeM HRM.out (m2 := 524287) (i := 18) (v := undef) rfl (by kernel_rfl) (fun _ _ _ h => h) (Or.inr ⟨by kernel_rfl, rfl⟩) ?_
                    refine takeM HRM.out (m2 := 1048575) (i := 19) (v := undef) rfl (by kernel_rfl) (fun _ _ _ h => h) (Or.inr ⟨by kernel_rfl, rfl⟩) ?_
                    refine takeM HRM.out (m2 := 2097151) (i := 20) (v := undef) rfl (by kernel_rfl) (fun _ _ _ h => h) (Or.inr ⟨by kernel_rfl, rfl⟩) ?_
                    refine takeM HRM.out (m2 := 4194303) (i := 21) (v := undef) rfl (by kernel_rfl) (fun _ _ _ h => h) (Or.inr ⟨by kernel_rfl, rfl⟩) ?_
                    refine takeM HRM.out (m2 := 8388607) (i := 22) (v := undef) rfl (by kernel_rfl) (fun _ _ _ h => h) (Or.inr ⟨by kernel_rfl, rfl⟩) ?_
                    refine takeM HRM.out (m2 := 16777215) (i := 23) (v := .bool true) rfl (by kernel_rfl) (fun _ _ _ h => h) (Or.inl ⟨by kernel_rfl, by intro w; go_simp⟩) ?_
                    refine takeM HRM.out (m2 := 33554431) (i := 24) (v := .bool true) rfl (by kernel_rfl) (fun _ _ _ h => h) (Or.inl ⟨by kernel_rfl, by intro w; go_simp⟩) ?_
                    refine takeM HRM.out (m2 := 67108863) (i := 25) (v := undef) rfl (by kernel_rfl) (fun _ _ _ h => h) (Or.inr ⟨by kernel_rfl, rfl⟩) ?_
                    refine takeM HRM.out (m2 := 134217727) (i := 26) (v := undef) rfl (by kernel_rfl) (fun _ _ _ h => h) (Or.inr ⟨by kernel_rfl, rfl⟩) ?_
                    refine takeM HRM.out (m2 := 268435455) (i := 27) (v := undef) rfl (by kernel_rfl) (fun _ _ _ h => h) (Or.inr ⟨by kernel_rfl, rfl⟩) ?_
                    refine takeM HRM.out (m2 := 536870911) (i := 28) (v := undef) rfl (by kernel_rfl) (fun _ _ _ h => h) (Or.inr ⟨by kernel_rfl, rfl⟩) ?_
                    refine takeM HRM.out (m2 := 1073741823) (i := 29) (v := undef) rfl (by kernel_rfl) (fun _ _ _ h => h) (Or.inr ⟨by kernel_rfl, rfl⟩) ?_
                    refine takeM HRM.out (m2 := 2147483647) (i := 30) (v := undef) rfl (by kernel_rfl) (fun _ _ _ h => h) (Or.inr ⟨by kernel_rfl, rfl⟩) ?_
                    refine takeM HRM.out (m2 := 4294967295) (i := 31) (v := undef) rfl (by kernel_rfl) (fun _ _ _ h => h) (Or.inr ⟨by kernel_rfl, rfl⟩) ?_
                    refine takeM HRM.out (m2 := 8589934591) (i := 32) (v := undef) rfl (by kernel_rfl) (fun _ _ _ h => h) (Or.inr ⟨by kernel_rfl, rfl⟩) ?_
                    refine takeM HRM.out (m2 := 17179869183) (i := 33) (v := undef) rfl (by kernel_rfl) (fun _ _ _ h => h) (Or.inr ⟨by kernel_rfl, rfl⟩) ?_
                    refine takeM HRM.out (m2 := 34359738367) (i := 34) (v := undef) rfl (by kernel_rfl) (fun _ _ _ h => h) (Or.inr ⟨by kernel_rfl, rfl⟩) ?_
                    refine takeM HRM.out (m2 := 68719476735) (i := 35) (v := .bool true) rfl (by kernel_rfl) (fun _ _ _ h => h) (Or.inl ⟨by kernel_rfl, by intro w; go_simp⟩) ?_
                    refine wpAny_done (HRM.out.list _ (by kernel_rfl)) ?_ _
                    go_wp2
                    go_meet
                    case rel => exact ⟨true, rfl, fun h => (by cases h), HB5.out⟩
                  | false =>
                  refine takeM HRM.out (m2 := 1023) (i := 9) (v := .bool false) rfl (by kernel_rfl) (fun _ _ _ h => h) (Or.inl ⟨by kernel_rfl, by intro w; go_simp⟩) ?_
                  refine takeM HRM.out (m2 := 2047) (i := 10) (v := .bool false) rfl (by kernel_rfl) (fun _ _ _ h => h) (Or.inl ⟨by kernel_rfl, by intro w; go_simp⟩) ?_
                  refine takeM HRM.out (m2 := 4095) (i := 11) (v := .bool false) rfl (by kernel_rfl) (fun _ _ _ h => h) (Or.inl ⟨by kernel_rfl, by intro w; go_simp⟩) ?_
                  refine takeM HRM.out (m2 := 8191) (i := 12) (v := .string (f0 k)) rfl (by kernel_rfl) (fun _ _ _ h => h) (Or.inl ⟨by kernel_rfl, by intro w; go_simp⟩) ?_
                  cases x3 with
                  | true =>
                    refine takeM HRM.out (m2 := 16383) (i := 13) (v := .bool true) rfl (by kernel_rfl) (fun _ _ _ h => h) (Or.inl ⟨by kernel_rfl, by intro w; go_simp⟩) ?_
                    refine takeM HRM.out (m2 := 32767) (i := 14) (v := .bool true) rfl (by kernel_rfl) (fun _ _ _ h => h) (Or.inl ⟨by kernel_rfl, by intro w; go_simp⟩) ?_
                    refine takeM HRM.out (m2 := 65535) (i := 15) (v := .bool true) rfl (by kernel_rfl) (fun _ _ _ h => h) (Or.inl ⟨by kernel_rfl, by intro w; go_simp⟩) ?_
                    refine takeM HRM.out (m2 := 131071) (i := 16) (v := undef) rfl (by kernel_rfl) (fun _ _ _ h => h) (Or.inr ⟨by kernel_rfl, rfl⟩) ?_
                    refine takeM HRM.out (m2 := 262143) (i := 17) (v := undef) rfl (by kernel_rfl) (fun _ _ _ h => h) (Or.inr ⟨by kernel_rfl, rfl⟩) ?_
                    refine takeM HRM.out (m2 := 524287) (i := 18) (v := undef) rfl (by kernel_rfl) (fun _ _ _ h => h) (Or.inr ⟨by kernel_rfl, rfl⟩) ?_
                    refine takeM HRM.out (m2 := 1048575) (i := 19) (v := undef) rfl (by kernel_rfl) (fun _ _ _ h => h) (Or.inr ⟨by kernel_rfl, rfl⟩) ?_
                    refine takeM HRM.out (m2 := 2097151) (i := 20) (v := undef) rfl (by kernel_rfl) (fun _ _ _ h => h) (Or.inr ⟨by kernel_rfl, rfl⟩) ?_
                    refine takeM HRM.out (m2 := 4194303) (i := 21) (v := undef) rfl (by kernel_rfl) (fun _ _ _ h => h) (Or.inr ⟨by kernel_rfl, rfl⟩) ?_
                    refine takeM HRM.out (m2 := 8388607) (i := 22) (v := undef) rfl (by kernel_rfl) (fun _ _ _ h => h) (Or.inr ⟨by kernel_rfl, rfl⟩) ?_
                    refine takeM HRM.out (m2 := 16777215) (i := 23) (v := .bool true) rfl (by kernel_rfl) (fun _ _ _ h => h) (Or.inl ⟨by kernel_rfl, by intro w; go_simp⟩) ?_
                    refine takeM HRM.out (m2 := 33554431) (i := 24) (v := .bool true) rfl (by kernel_rfl) (fun _ _ _ h => h) (Or.inl ⟨by kernel_rfl, by intro w; go_simp⟩) ?_
                    refine takeM HRM.out (m2 := 67108863) (i := 25) (v := undef) rfl (by kernel_rfl) (fun _ _ _ h => h) (Or.inr ⟨by kernel_rfl, rfl⟩) ?_
                    refine takeM HRM.out (m2 := 134217727) (i := 26) (v := undef) rfl (by kernel_rfl) (fun _ _ _ h => h) (Or.inr ⟨by kernel_rfl, rfl⟩) ?_
                    refine takeM HRM.out (m2 := 268435455) (i := 27) (v := undef) rfl (by kernel_rfl) (fun _ _ _ h => h) (Or.inr ⟨by kernel_rfl, rfl⟩) ?_
                    refine takeM HRM.out (m2 := 536870911) (i := 28) (v := undef) rfl (by kernel_rfl) (fun _ _ _ h => h) (Or.inr ⟨by kernel_rfl, rfl⟩) ?_
                    refine takeM HRM.out (m2 := 1073741823) (i := 29) (v := undef) rfl (by kernel_rfl) (fun _ _ _ h => h) (Or.inr ⟨by kernel_rfl, rfl⟩) ?_
                    refine takeM HRM.out (m2 := 2147483647) (i := 30) (v := undef) rfl (by kernel_rfl) (fun _ _ _ h => h) (Or.inr ⟨by kernel_rfl, rfl⟩) ?_
                    refine takeM HRM.out (m2 := 4294967295) (i := 31) (v := undef) rfl (by kernel_rfl) (fun _ _ _ h => h) (Or.inr ⟨by kernel_rfl, rfl⟩) ?_
                    refine takeM HRM.out (m2 := 8589934591) (i := 32) (v := undef) rfl (by kernel_rfl) (fun _ _ _ h => h) (Or.inr ⟨by kernel_rfl, rfl⟩) ?_
                    refine takeM HRM.out (m2 := 17179869183) (i := 33) (v := undef) rfl (by kernel_rfl) (fun _ _ _ h => h) (Or.inr ⟨by kernel_rfl, rfl⟩) ?_
                    refine takeM HRM.out (m2 := 34359738367) (i := 34) (v := undef) rfl (by kernel_rfl) (fun _ _ _ h => h) (Or.inr ⟨by kernel_rfl, rfl⟩) ?_
                    refine takeM HRM.out (m2 := 68719476735) (i := 35) (v := .bool true) rfl (by kernel_rfl) (fun _ _ _ h => h) (Or.inl ⟨by kernel_rfl, by intro w; go_simp⟩) ?_
                    refine wpAny_done (HRM.out.list _ (by kernel_rfl)) ?_ _
                    go_wp2
                    go_meet
                    case rel => exact ⟨true, rfl, fun h => (by cases h), HB5.out⟩
                  | false =>
                  refine takeM HRM.out (m2 := 16383) (i := 13) (v := .bool false) rfl (by kernel_rfl) (fun _ _ _ h => h) (Or.inl ⟨by kernel_rfl, by intro w; go_simp⟩) ?_
                  refine takeM HRM.out (m2 := 32767) (i := 14) (v := .bool false) rfl (by kernel_rfl) (fun _ _ _ h => h) (Or.inl ⟨by kernel_rfl, by intro w; go_simp⟩) ?_
                  refine takeM HRM.out (m2 := 65535) (i := 15) (v := .bool false) rfl (by kernel_rfl) (fun _ _ _ h => h) (Or.inl ⟨by kernel_rfl, by intro w; go_simp⟩) ?_
                  have hwr : IntKind.i64.wrap ((k : Int) + 1) = (k : Int) + 1 := by rw [IntKind.wrap_i64]; omega
                  have hin1 : (0 : Int) ≤ (k : Int) + 1 := by omega
                  have hin2 : (k : Int) + 1 ≤ c1 := by omega
                  have hin3 : ¬ c1 = k := by omega
                  refine takeM HRM.out (m2 := 131071) (i := 16) (v := .slice (some ⟨b1, o1, none⟩) n1 c1) rfl (by kernel_rfl) (fun _ _ _ h => h) (Or.inl ⟨by kernel_rfl, by intro w; go_simp⟩) ?_
                  refine takeM HRM.out (m2 := 262143) (i := 17) (v := .int .i64 (k : Nat)) rfl (by kernel_rfl) (fun _ _ _ h => h) (Or.inl ⟨by kernel_rfl, by intro w; go_simp⟩) ?_
                  refine takeM HRM.out (m2 := 524287) (i := 18) (v := .int .i64 (k : Nat)) rfl (by kernel_rfl) (fun _ _ _ h => h) (Or.inl ⟨by kernel_rfl, by intro w; go_simp⟩) ?_
                  refine takeM HRM.out (m2 := 1048575) (i := 19) (v := .int .i64 ((k : Nat) + 1)) rfl (by kernel_rfl) (fun _ _ _ h => h) (Or.inl ⟨by kernel_rfl, by intro w; go_simp⟩) ?_
                  refine wpAny_ready (rs := [20]) (HRM.out.list _ (by kernel_rfl)) (by simp) ?_
                  refine AllReady.cons rfl (fun K hK => ?_) AllReady.nil
                  go_simp
                  refine hK _ _ ?_
                  refine behindM (m2 := 2097151) (by kernel_rfl) ?_
                  clear hK K
                  refine wpAny_ready (rs := [21]) (HRM.out.list _ (by kernel_rfl)) (by simp) ?_
                  refine AllReady.cons rfl (fun K hK => ?_) AllReady.nil
                  go_simp
                  go_at_call 22
                  refine (areGlob_any _ _ _ (fun _ => g1 k) _ (by decide) (by omega) (by omega) (GAs.one (HG4.out.below HB5.out) hlt)).mono ?_
                  rintro e w6 ⟨r2, rfl, hr2, hb⟩
                  have HR2 := Lib.hid hr2; have HB6 : Hid (Below wr.heap.size wr w6) := Lib.hid (HB5.out.trans (hb.mono HB5.out.size))
                  clear hr2 hb
                  refine hK _ _ ?_
                  refine behindM (m2 := 4194303) (by kernel_rfl) ?_
                  clear hK K
                  cases r2 with
                  | false =>
                    refine takeM HRM.out (m2 := 8388607) (i := 22) (v := .bool true) rfl (by kernel_rfl) (fun _ _ _ h => h) (Or.inl ⟨by kernel_rfl, by intro w; go_simp⟩) ?_
                    refine takeM HRM.out (m2 := 16777215) (i := 23) (v := .bool true) rfl (by kernel_rfl) (fun _ _ _ h => h) (Or.inl ⟨by kernel_rfl, by intro w; go_simp⟩) ?_
                    refine takeM HRM.out (m2 := 33554431) (i := 24) (v := .bool true) rfl (by kernel_rfl) (fun _ _ _ h => h) (Or.inl ⟨by kernel_rfl, by intro w; go_simp⟩) ?_
                    refine takeM HRM.out (m2 := 67108863) (i := 25) (v := undef) rfl (by kernel_rfl) (fun _ _ _ h => h) (Or.inr ⟨by kernel_rfl, rfl⟩) ?_
                    refine takeM HRM.out (m2 := 134217727) (i := 26) (v := undef) rfl (by kernel_rfl) (fun _ _ _ h => h) (Or.inr ⟨by kernel_rfl, rfl⟩) ?_
                    refine takeM HRM.out (m2 := 268435455) (i := 27) (v := undef) rfl (by kernel_rfl) (fun _ _ _ h => h) (Or.inr ⟨by kernel_rfl, rfl⟩) ?_
                    refine takeM HRM.out (m2 := 536870911) (i := 28) (v := undef) rfl (by kernel_rfl) (fun _ _ _ h => h) (Or.inr ⟨by kernel_rfl, rfl⟩) ?_
                    refine takeM HRM.out (m2 := 1073741823) (i := 29) (v := undef) rfl (by kernel_rfl) (fun _ _ _ h => h) (Or.inr ⟨by kernel_rfl, rfl⟩) ?_
                    refine takeM HRM.out (m2 := 2147483647) (i := 30) (v := undef) rfl (by kernel_rfl) (fun _ _ _ h => h) (Or.inr ⟨by kernel_rfl, rfl⟩) ?_
                    refine takeM HRM.out (m2 := 4294967295) (i := 31) (v := undef) rfl (by kernel_rfl) (fun _ _ _ h => h) (Or.inr ⟨by kernel_rfl, rfl⟩) ?_
                    refine takeM HRM.out (m2 := 8589934591) (i := 32) (v := undef) rfl (by kernel_rfl) (fun _ _ _ h => h) (Or.inr ⟨by kernel_rfl, rfl⟩) ?_
                    refine takeM HRM.out (m2 := 17179869183) (i := 33) (v := undef) rfl (by kernel_rfl) (fun _ _ _ h => h) (Or.inr ⟨by kernel_rfl, rfl⟩) ?_
                    refine takeM HRM.out (m2 := 34359738367) (i := 34) (v := undef) rfl (by kernel_rfl) (fun _ _ _ h => h) (Or.inr ⟨by kernel_rfl, rfl⟩) ?_
                    refine takeM HRM.out (m2 := 68719476735) (i := 35) (v := .bool true) rfl (by kernel_rfl) (fun _ _ _ h => h) (Or.inl ⟨by kernel_rfl, by intro w; go_simp⟩) ?_
                    refine wpAny_done (HRM.out.list _ (by kernel_rfl)) ?_ _
                    go_wp2
                    go_meet
                    case rel => exact ⟨true, rfl, fun h => (by cases h), HB6.out⟩
                  | true =>
                    refine takeM HRM.out (m2 := 8388607) (i := 22) (v := .bool false) rfl (by kernel_rfl) (fun _ _ _ h => h) (Or.inl ⟨by kernel_rfl, by intro w; go_simp⟩) ?_
                    refine takeM HRM.out (m2 := 16777215) (i := 23) (v := .bool false) rfl (by kernel_rfl) (fun _ _ _ h => h) (Or.inl ⟨by kernel_rfl, by intro w; go_simp⟩) ?_
                    refine takeM HRM.out (m2 := 33554431) (i := 24) (v := .bool false) rfl (by kernel_rfl) (fun _ _ _ h => h) (Or.inl ⟨by kernel_rfl, by intro w; go_simp⟩) ?_
                    have kc0 := (HB6.out.cell (p := ⟨b1, o1 + k * 3, none⟩) HBL.out).trans HC.out.1
                    have lc0 := (HB6.out.cell (p := ⟨b1, o1, none⟩) HBL.out).trans HC.out.2.2.2
                    refine takeM HRM.out (m2 := 67108863) (i := 25) (v := .slice (some ⟨b1, o1, none⟩) n1 c1) rfl (by kernel_rfl) (fun _ _ _ h => h) (Or.inl ⟨by kernel_rfl, by intro w; go_simp⟩) ?_
                    refine takeM HRM.out (m2 := 134217727) (i := 26) (v := .int .i64 (k : Nat)) rfl (by kernel_rfl) (fun _ _ _ h => h) (Or.inl ⟨by kernel_rfl, by intro w; go_simp⟩) ?_
                    refine takeM HRM.out (m2 := 1207959551) (i := 30) (v := .slice (some ⟨b1, o1, none⟩) n1 c1) rfl (by kernel_rfl) (fun _ _ _ h => h) (Or.inl ⟨by kernel_rfl, by intro w; go_simp⟩) ?_
                    have hrow : (¬ (g1 k).1.toList = (g1 0).1.toList) ∨ (((g1 k).1.toList != (g1 0).1.toList) = false ∧ (g1 k).1 = (g1 0).1) := by
                      by_cases h : (g1 k).1 = (g1 0).1
                      · exact .inr ⟨by rw [h]; exact bne_self_eq_false _, h⟩
                      · left
                        exact fun e => h (nb_inj (by unfold nb; rw [← toList_data, ← toList_data, e]))
                    have e0k : (0 : Int) ≤ (k : Int) := by omega
                    have e00 : 0 < n1 := by omega
                    refine takeM HRM.out (m2 := 1342177279) (i := 27) (v := .pointer (some ⟨b1, o1 + k * 3, none⟩)) rfl (by kernel_rfl) (fun _ _ _ h => h) (Or.inl ⟨by kernel_rfl, by intro w; go_simp⟩) ?_
                    refine takeM HRM.out (m2 := 1610612735) (i := 28) (v := .pointer (some ⟨b1, o1 + k * 3, none⟩)) rfl (by kernel_rfl) (fun _ _ _ h => h) (Or.inl ⟨by kernel_rfl, by intro w; go_simp⟩) ?_
                    refine takeM HRM.out (m2 := 3758096383) (i := 31) (v := .pointer (some ⟨b1, o1, none⟩)) rfl (by kernel_rfl) (fun _ _ _ h => h) (Or.inl ⟨by kernel_rfl, by intro w; go_simp⟩) ?_
                    refine takeM HRM.out (m2 := 8053063679) (i := 32) (v := .pointer (some ⟨b1, o1, none⟩)) rfl (by kernel_rfl) (fun _ _ _ h => h) (Or.inl ⟨by kernel_rfl, by intro w; go_simp⟩) ?_
                    refine wpAny_ready (rs := [29,33]) (HRM.out.list _ (by kernel_rfl)) (by simp) ?_
                    refine AllReady.cons rfl (fun K hK => ?_) (AllReady.cons rfl (fun K hK => ?_) AllReady.nil)
                    · go_simp
                      refine hK _ _ ?_
                      refine behindM (m2 := 8589934591) (by kernel_rfl) ?_
                      clear hK K
                      refine wpAny_ready (rs := [33]) (HRM.out.list _ (by kernel_rfl)) (by simp) ?_
                      refine AllReady.cons rfl (fun K hK => ?_) AllReady.nil
                      go_simp
                      refine hK _ _ ?_
                      refine behindM (m2 := 17179869183) (by kernel_rfl) ?_
                      clear hK K
                      rcases hrow with hrow | ⟨hrow, heq⟩
                      · refine takeM HRM.out (m2 := 34359738367) (i := 34) (v := .bool true) rfl (by kernel_rfl) (fun _ _ _ h => h) (Or.inl ⟨by kernel_rfl, by intro w; go_simp⟩) ?_
                        refine takeM HRM.out (m2 := 68719476735) (i := 35) (v := .bool true) rfl (by kernel_rfl) (fun _ _ _ h => h) (Or.inl ⟨by kernel_rfl, by intro w; go_simp⟩) ?_
                        refine wpAny_done (HRM.out.list _ (by kernel_rfl)) ?_ _
                        go_wp2
                        go_meet
                        case rel => exact ⟨true, rfl, fun h => (by cases h), HB6.out⟩
                      · refine takeM HRM.out (m2 := 34359738367) (i := 34) (v := .bool false) rfl (by kernel_rfl) (fun _ _ _ h => h) (Or.inl ⟨by kernel_rfl, by intro w; go_simp⟩) ?_
                        refine takeM HRM.out (m2 := 68719476735) (i := 35) (v := .bool false) rfl (by kernel_rfl) (fun _ _ _ h => h) (Or.inl ⟨by kernel_rfl, by intro w; go_simp⟩) ?_
                        have HGL : Hid (GoodLine (f0 k) (g1 k) ∧ (g1 k).1 = (g1 0).1) := Lib.hid ⟨⟨(HNB.out rfl).1, noDD_sub (HNB.out rfl).2, (HR2.out rfl).2.2.1 0 (by decide)⟩, heq⟩
                        clear heq
                        refine wpAny_done (HRM.out.list _ (by kernel_rfl)) ?_ _
                        go_wp2
                        go_meet
                        case rel => exact ⟨false, rfl, fun _ => HGL.out, HB6.out⟩
                    · go_simp
                      refine hK _ _ ?_
                      refine behindM (m2 := 16642998271) (by kernel_rfl) ?_
                      clear hK K
                      refine wpAny_ready (rs := [29]) (HRM.out.list _ (by kernel_rfl)) (by simp) ?_
                      refine AllReady.cons rfl (fun K hK => ?_) AllReady.nil
                      go_simp
                      refine hK _ _ ?_
                      refine behindM (m2 := 17179869183) (by kernel_rfl) ?_
                      clear hK K
                      rcases hrow with hrow | ⟨hrow, heq⟩
                      · refine takeM HRM.out (m2 := 34359738367) (i := 34) (v := .bool true) rfl (by kernel_rfl) (fun _ _ _ h => h) (Or.inl ⟨by kernel_rfl, by intro w; go_simp⟩) ?_
                        refine takeM HRM.out (m2 := 68719476735) (i := 35) (v := .bool true) rfl (by kernel_rfl) (fun _ _ _ h => h) (Or.inl ⟨by kernel_rfl, by intro w; go_simp⟩) ?_
                        refine wpAny_done (HRM.out.list _ (by kernel_rfl)) ?_ _
                        go_wp2
                        go_meet
                        case rel => exact ⟨true, rfl, fun h => (by cases h), HB6.out⟩
                      · refine takeM HRM.out (m2 := 34359738367) (i := 34) (v := .bool false) rfl (by kernel_rfl) (fun _ _ _ h => h) (Or.inl ⟨by kernel_rfl, by intro w; go_simp⟩) ?_
                        refine takeM HRM.out (m2 := 68719476735) (i := 35) (v := .bool false) rfl (by kernel_rfl) (fun _ _ _ h => h) (Or.inl ⟨by kernel_rfl, by intro w; go_simp⟩) ?_
                        have HGL : Hid (GoodLine (f0 k) (g1 k) ∧ (g1 k).1 = (g1 0).1) := Lib.hid ⟨⟨(HNB.out rfl).1, noDD_sub (HNB.out rfl).2, (HR2.out rfl).2.2.1 0 (by decide)⟩, heq⟩
                        clear heq
                        refine wpAny_done (HRM.out.list _ (by kernel_rfl)) ?_ _
                        go_wp2
                        go_meet
                        case rel => exact ⟨false, rfl, fun _ => HGL.out, HB6.out⟩
              case rest =>
                obtain ⟨B, rfl, hB, hb⟩ := hcut
                have HBC := Lib.hid hb
                have BC := Lib.hid (B4.out.trans (hb.mono B4.out.size)); clear hb
                cases B with
                | true =>
                  clear hB
                  go_wp2_with fail
                  with_reducible refine (awake_any _).mono ?_
                  rintro e w3 ⟨rfl, hb⟩
                  have B3 := Lib.hid (BC.out.trans (hb.mono BC.out.size)); clear hb
                  go_wp2
                  go_ret
                  exact ⟨rfl, B3.out⟩
                | false =>
                  obtain ⟨hgl, hnm1⟩ := hB rfl
                  have HGL := Lib.hid hgl
                  have HOK2 := Lib.hid (HOK.out.more hgl hnm1)
                  have HTL : Hid (t.size ≤ 400) := Lib.hid (by
                    have h1 := (txt_len f0 g1 k (fun i hi => (HOK.out i hi).1)).2
                    rw [← HT.out, nb_length] at h1; omega)
                  have HTX : Hid (txt f0 g1 (k + 1) = nb t ++ (lineN (f0 k) (g1 k) ++ [10])) := Lib.hid (by rw [HT.out]; rfl)
                  clear hB hgl hnm1 HC
                  obtain ⟨_, _, hA, _, k0, k1, k2, kx, _⟩ := (HG4.out.below HBC.out) k hlt
                  injection hA with hA
                  injection hA with hA hA2
                  subst hA; subst hA2
                  have hfz : (f0 k).size ≤ 10 := (toks_spec HGL.out.part).2.2.2
                  generalize g1 k = a at k0 k1 k2 kx HGL HTX
                  obtain ⟨a1, a2, a3⟩ := a
                  dsimp only at k0 k1 k2 kx
                  have hz1 : a1.size ≤ 1000 := by have h3 : a1.size ≤ 30 := HGL.out.attr.1.2.2; omega
                  have hz3 : a3.size ≤ 1000 := by
                    by_cases h : a2 = 3
                    · have h3 : a3.size ≤ 30 := (HGL.out.attr.2.2.1 h).2.2; omega
                    · have h3 : a3.size = 0 := HGL.out.attr.2.2.2 h; omega
                  have hfq : ¬ 9223372036854775807 < (f0 k).size + 1 := by omega
                  generalize hfk : f0 k = p at *
                  have HFK := Lib.hid hfk; clear hfk
                  go_wp2_with fail
                  with_reducible refine (globAttr_any a1 a2 a3 _ hz1 hz3).mono ?_
                  rintro e w5 ⟨s, rfl, hs, hb⟩
                  have HS := Lib.hid hs
                  have B5 := Lib.hid (BC.out.trans (hb.mono BC.out.size))
                  have hsz : s.size ≤ 62 := by rw [size_of hs]; exact (gaText_len HGL.out.attr).2
                  have htl : t.size ≤ 400 := HTL.out
                  have e1 : (p ++ (⟨#[32]⟩ : ByteArray)).size = p.size + 1 := ByteArray.size_append
                  have e2 : (p ++ (⟨#[32]⟩ : ByteArray) ++ s).size = p.size + 1 + s.size := by rw [ByteArray.size_append, e1]
                  have e3 : (p ++ (⟨#[32]⟩ : ByteArray) ++ s ++ (⟨#[10]⟩ : ByteArray)).size = p.size + 1 + s.size + 1 := by rw [ByteArray.size_append, e2]; rfl
                  have z1 : ¬ 9223372036854775807 < (p ++ (⟨#[32]⟩ : ByteArray)).size + s.size := by omega
                  have z2 : ¬ 9223372036854775807 < (p ++ (⟨#[32]⟩ : ByteArray) ++ s).size + 1 := by omega
                  have z3 : ¬ 9223372036854775807 < t.size + (p ++ (⟨#[32]⟩ : ByteArray) ++ s ++ (⟨#[10]⟩ : ByteArray)).size := by omega
                  have HT2 : Hid (nb (t ++ (p ++ (⟨#[32]⟩ : ByteArray) ++ s ++ (⟨#[10]⟩ : ByteArray))) = txt f0 g1 (k + 1)) := Lib.hid (by
                    rw [HTX.out, nb_append, nb_append, nb_append, nb_append, hs]
                    unfold lineN
                    simp [nb])
                  obtain ⟨_, _, hA, _, l0⟩ := (H2.out.below B5.out) (n2 - 1) (by omega)
                  injection hA with hA
                  injection hA with hA hA2
                  subst hA; subst hA2
                  replace l0 : w5.cell? ⟨b2, o2 + (n2 - 1), none⟩ = some (.string last) := l0.trans (by show some (Value.string (f2 (n2 - 1))) = _; rw [HLAST.out])
                  have y1 : (0 : Int) ≤ (n2 : Int) - 1 := by omega
                  have y2 : (n2 : Int) - 1 < n2 := by omega
                  clear e1 e2 e3 hb hs k0 k1 k2 kx HTX HTL
                  have z4 : ¬ 9223372036854775807 < p.size + 1 + s.size + 1 := by omega
                  have z5 : ¬ 9223372036854775807 ≤ p.size + 1 + s.size := by omega
                  have z6 : ¬ 9223372036854775807 < t.size + (p.size + 1 + s.size + 1) := by omega
                  go_wp2_with fail
                  with_reducible refine (globName_any 2000 (toksOf p) p last _ (by have := HNL.out.six; omega) (toks_spec HGL.out.part).1 (fun u hu => good_gR ((toks_spec HGL.out.part).2.1 u hu)) (by omega) (by have := HNL.out.six; omega)).mono ?_
                  rintro e w6 ⟨rfl, m6, hw6⟩
                  have B6 : Hid (Below w.heap.size w w6) := Lib.hid (by rw [hw6]; exact below_drewN B5.out _)
                  clear hw6
                  have HLV : Hid (lastV (fun i => MR (f0 i) last) (k + 1) = if gn hasR (toksOf p) (nb last) = true then .int .i64 (k : Nat) else lastV (fun i => MR (f0 i) last) k) := Lib.hid (by
                    rw [lastV_succ]
                    show (if MR (f0 k) last = true then _ else _) = _
                    rw [HFK.out]; rfl)
                  generalize gn hasR (toksOf p) (nb last) = hit at HLV ⊢
                  cases hit with
                  | true =>
                    go_wp2
                    go_roundw
                    case rel => exact ⟨k + 1, _, by omega, by go_num, rfl, HT2.out, by rw [HLV.out]; rfl, HOK2.out, B6.out⟩
                    case measure => simp [intOf]; omega
                  | false =>
                    go_wp2
                    go_roundw
                    case rel => exact ⟨k + 1, _, by omega, by go_num, rfl, HT2.out, by rw [HLV.out]; rfl, HOK2.out, B6.out⟩
                    case measure => simp [intOf]; omega
            · obtain rfl : k = n1 := by omega
              clear hlt
              obtain ⟨_, _, hA, hbl, lc0, _⟩ := (H1.out.below B4.out) 0 (by omega)
              injection hA with hA
              injection hA with hA hA2
              subst hA; subst hA2
              rw [Nat.zero_mul, Nat.add_zero] at lc0
              generalize hn0 : (g1 0).1 = nm0 at lc0
              have HN0 := Lib.hid hn0; clear hn0
              go_upto_region 16 with (fail)
              have hsn : Hid (Strs (wr.alloc (.cells #[.string nm0] 9)) (some ⟨wr.heap.size, 0, none⟩) 1 (fun _ => nm0)) := Lib.hid (strs_one wr nm0)
              have BA : Hid (Below w.heap.size w (wr.alloc (.cells #[.string nm0] 9))) := Lib.hid (B4.out.alloc B4.out.size _)
              have HOKG : Hid (∀ i, i < k → GoodLine (f0 i) (g1 i)) := Lib.hid fun i hi => (HOK.out i hi).1
              go_wp2_with fail
              with_reducible refine (matchLines_any t k f0 f2 g1 _ _ n2 c2 1 (fun _ => nm0) ea msg _ ⟨p1, p5⟩ HT.out HOKG.out (errAt_heap HE.out (fun q hq => BA.out.block q (by rcases hq with rfl | rfl; exact HE.out.lt.1; exact HE.out.lt.2)) BA.out.size) (H2.out.below BA.out) ⟨q1, by omega⟩ (fun i hi => (HNM.out i hi).nm) hsn.out).mono ?_
              rw [HLAST.out]
              rintro e w6 hpost
              cases hl : lastHit (fun i => MR (f0 i) last) k with
              | none =>
                rw [hl] at hpost
                rw [lastV_none hl]
                clear hl
                obtain ⟨A, c, rfl, hb⟩ := hpost
                have B6 := Lib.hid (BA.out.trans (hb.mono BA.out.size)); clear hb
                go_wp2_with fail
                with_reducible refine (awake_any _).mono ?_
                rintro e w3 ⟨rfl, hb⟩
                have B3 := Lib.hid (B6.out.trans (hb.mono B6.out.size)); clear hb
                go_wp2
                go_ret
                exact ⟨rfl, B3.out⟩
              | some j =>
                rw [hl] at hpost
                rw [lastV_some hl]
                have hjk : j < k := lastHit_lt hl
                clear hl
                obtain ⟨g, c, rfl, hgw, m0', m1', m2', hb⟩ := hpost
                have B6 := Lib.hid (BA.out.trans (hb.mono BA.out.size)); clear hb
                have hnm : (readOf (g1 j)).1 = nm0 := (HOK.out j hjk).2.trans HN0.out
                have hst : stN (readOf (g1 j)).2.1 = (g1 j).2.1 := readOf_st (HOKG.out j hjk).attr
                have hva : (g1 j).2.1 = 3 → (readOf (g1 j)).2.2 = (g1 j).2.2 := fun h => by unfold readOf; rw [if_pos h]
                rw [hnm] at m0'
                rw [hst] at m2'
                generalize (readOf (g1 j)).2.2 = rv at m1' hva
                obtain ⟨_, _, hA, _, x0, x1, x2, xx, _⟩ := (H1.out.below B6.out) j hjk
                injection hA with hA
                injection hA with hA hA2
                subst hA; subst hA2
                have lc6 : w6.cell? ⟨b1, o1, none⟩ = some (.string nm0) := by
                  obtain ⟨_, _, hA, _, y0, _⟩ := (H1.out.below B6.out) 0 (by omega)
                  injection hA with hA
                  injection hA with hA hA2
                  subst hA; subst hA2
                  rw [Nat.zero_mul, Nat.add_zero, HN0.out] at y0
                  exact y0
                clear hnm hst x0
                generalize g1 j = a at m2' hva x1 x2 xx
                obtain ⟨a1, a2, a3⟩ := a
                dsimp only at m2' hva x1 x2 xx
                have hj0 : (0 : Int) ≤ (j : Int) := by omega
                have hj1 : (j : Int) < k := by omega
                have hj2 : ¬ (j : Int) < 0 := by omega
                have t1 : (nm0.toList == nm0.toList) = true := beq_self_eq_true _
                have t2 : ((a2 : Int) == (a2 : Int)) = true := beq_self_eq_true _
                have t5 : IntKind.i64.wrap (a2 : Int) = (a2 : Int) := by rw [IntKind.wrap_i64]; omega
                go_upto_region 21 with (fail)
                have hk0 : (0 : Int) < (k : Int) := by omega
                have hk00 : ¬ k = 0 := by omega
                have hb6 : b1 < w6.heap.size := Nat.lt_of_lt_of_le HB1W.out B6.out.size
                have hw3 : IntKind.i64.wrap 3 = 3 := by decide
                refine wp_region_held_drew (S := fun w' => Below w6.heap.size w6 w') (by kernel_rfl) (Below.refl _ _).drew ?_
                intro hSW
                have HSW : Hid (Below w6.heap.size w6 w6.drew) := Lib.hid hSW
                clear hSW
                refine startRH (n := 51) (T := [0, 1, 2, 4, 8, 24, 40, 72, 8, 264, 520, 1032, 2184, 4104, 8200, 16384, 49152, 81920, 147456, 16384, 16384, 1589248, 2113536, 4210688, 8404992, 17055744, 33570816, 67125248, 134217728, 134217728, 939524096, 1207959552, 2281701376, 4429185024, 8724152320, 17179869184, 51539607552, 85899345920, 154618822656, 17179869184, 17179869184, 1666447310848, 2216203124736, 4415226380288, 9088150798336, 17609500131328, 35184506306560, 70385924046848, 140737488355328, 422212465065984, 1125899906842623]) (A := [2251799813685244, 2251799813685240, 2251799813685233, 2251799813668867, 2251799813685191, 2251799813685127, 2251799813685015, 2251799813680951, 2251799813684471, 2251799813683447, 2251799813681655, 2251799813678071, 2251799813670775, 2251799813656567, 2251799679475711, 2251799813570559, 2251799813439487, 2251799813210111, 2251799779721215, 2251799811047423, 2251799810523135, 2251799805804543, 2251799798988799, 2251799784308735, 2251799754948607, 2251799695966207, 2251799578787839, 2146212404789247, 2251798337290239, 2251798068854783, 2251795652935679, 2251792163274751, 2251784647081983, 2251769614696447, 2181439525224447, 2251679554600959, 2251542115647487, 2251301597478911, 2233778130911231, 2249033854746623, 2248484098932735, 2243536296607743, 2236389471027199, 2220996308238335, 2189935104753663, 2128637197287423, 2005509074845695, 1196268651020287, 1266637395197951, 140737488355327, 562949953421311]) ⟨by kernel_rfl, by kernel_rfl, by kernel_rfl, by kernel_rfl, by kernel_rfl⟩ (fun HRM => ?_)
                by_cases h3 : a2 = 3
                · have hrv : rv = a3 := hva h3
                  subst hrv
                  subst h3
                  clear hva xx
                  have t3 : (rv.toList == rv.toList) = true := beq_self_eq_true _
                  refine takeMH HRM.out (m2 := 1) (i := 0) (v := .slice (some ⟨g, 0, none⟩) 1 c) rfl (by kernel_rfl) (fun _ _ _ h => h) (Or.inl ⟨by kernel_rfl, by intro w hS; go_simp⟩) HSW.out ?_
                  refine takeMH HRM.out (m2 := 3) (i := 1) (v := .int .i64 1) rfl (by kernel_rfl) (fun _ _ _ h => h) (Or.inl ⟨by kernel_rfl, by intro w hS; go_simp⟩) HSW.out ?_
                  refine takeMH HRM.out (m2 := 7) (i := 2) (v := .bool true) rfl (by kernel_rfl) (fun _ _ _ h => h) (Or.inl ⟨by kernel_rfl, by intro w hS; go_simp⟩) HSW.out ?_
                  refine takeMH HRM.out (m2 := 15) (i := 3) (v := .bool true) rfl (by kernel_rfl) (fun _ _ _ h => h) (Or.inl ⟨by kernel_rfl, by intro w hS; go_simp⟩) HSW.out ?_
                  refine takeMH HRM.out (m2 := 31) (i := 4) (v := .slice (some ⟨g, 0, none⟩) 1 c) rfl (by kernel_rfl) (fun _ _ _ h => h) (Or.inl ⟨by kernel_rfl, by intro w hS; go_simp⟩) HSW.out ?_
                  refine takeMH HRM.out (m2 := 63) (i := 5) (v := .pointer (some ⟨g, 0, none⟩)) rfl (by kernel_rfl) (fun _ _ _ h => h) (Or.inl ⟨by kernel_rfl, by intro w hS; go_simp⟩) HSW.out ?_
                  refine takeMH HRM.out (m2 := 127) (i := 6) (v := .pointer (some ⟨g, 0, none⟩)) rfl (by kernel_rfl) (fun _ _ _ h => h) (Or.inl ⟨by kernel_rfl, by intro w hS; go_simp⟩) HSW.out ?_
                  refine takeMH HRM.out (m2 := 255) (i := 7) (v := .string nm0) rfl (by kernel_rfl) (fun _ _ _ h => h) (Or.inl ⟨by kernel_rfl, by intro w hS; have hc := (hS.cell (p := ⟨g, 0, none⟩) hgw).trans m0'; go_simp⟩) HSW.out ?_
                  refine takeMH HRM.out (m2 := 511) (i := 8) (v := .slice (some ⟨b1, o1, none⟩) k c1) rfl (by kernel_rfl) (fun _ _ _ h => h) (Or.inl ⟨by kernel_rfl, by intro w hS; go_simp⟩) HSW.out ?_
                  refine takeMH HRM.out (m2 := 1023) (i := 9) (v := .pointer (some ⟨b1, o1, none⟩)) rfl (by kernel_rfl) (fun _ _ _ h => h) (Or.inl ⟨by kernel_rfl, by intro w hS; go_simp⟩) HSW.out ?_
                  refine takeMH HRM.out (m2 := 2047) (i := 10) (v := .pointer (some ⟨b1, o1, none⟩)) rfl (by kernel_rfl) (fun _ _ _ h => h) (Or.inl ⟨by kernel_rfl, by intro w hS; go_simp⟩) HSW.out ?_
                  refine takeMH HRM.out (m2 := 4095) (i := 11) (v := .string nm0) rfl (by kernel_rfl) (fun _ _ _ h => h) (Or.inl ⟨by kernel_rfl, by intro w hS; have hc := (hS.cell (p := ⟨b1, o1, none⟩) hb6).trans lc6; go_simp⟩) HSW.out ?_
                  refine takeMH HRM.out (m2 := 8191) (i := 12) (v := .bool true) rfl (by kernel_rfl) (fun _ _ _ h => h) (Or.inl ⟨by kernel_rfl, by intro w hS; go_simp⟩) HSW.out ?_
                  refine takeMH HRM.out (m2 := 16383) (i := 13) (v := .bool true) rfl (by kernel_rfl) (fun _ _ _ h => h) (Or.inl ⟨by kernel_rfl, by intro w hS; go_simp⟩) HSW.out ?_
                  refine takeMH HRM.out (m2 := 32767) (i := 14) (v := .bool true) rfl (by kernel_rfl) (fun _ _ _ h => h) (Or.inl ⟨by kernel_rfl, by intro w hS; go_simp⟩) HSW.out ?_
                  refine takeMH HRM.out (m2 := 65535) (i := 15) (v := .slice (some ⟨g, 0, none⟩) 1 c) rfl (by kernel_rfl) (fun _ _ _ h => h) (Or.inl ⟨by kernel_rfl, by intro w hS; go_simp⟩) HSW.out ?_
                  refine takeMH HRM.out (m2 := 131071) (i := 16) (v := .pointer (some ⟨g, 0, none⟩)) rfl (by kernel_rfl) (fun _ _ _ h => h) (Or.inl ⟨by kernel_rfl, by intro w hS; go_simp⟩) HSW.out ?_
                  refine takeMH HRM.out (m2 := 262143) (i := 17) (v := .pointer (some ⟨g, 2, none⟩)) rfl (by kernel_rfl) (fun _ _ _ h => h) (Or.inl ⟨by kernel_rfl, by intro w hS; go_simp⟩) HSW.out ?_
                  refine takeMH HRM.out (m2 := 524287) (i := 18) (v := .int .i64 3) rfl (by kernel_rfl) (fun _ _ _ h => h) (Or.inl ⟨by kernel_rfl, by intro w hS; have hc := (hS.cell (p := ⟨g, 2, none⟩) hgw).trans m2'; go_simp⟩) HSW.out ?_
                  refine takeMH HRM.out (m2 := 1048575) (i := 19) (v := .slice (some ⟨b1, o1, none⟩) k c1) rfl (by kernel_rfl) (fun _ _ _ h => h) (Or.inl ⟨by kernel_rfl, by intro w hS; go_simp⟩) HSW.out ?_
                  refine takeMH HRM.out (m2 := 2097151) (i := 20) (v := .int .i64 (j : Nat)) rfl (by kernel_rfl) (fun _ _ _ h => h) (Or.inl ⟨by kernel_rfl, by intro w hS; go_simp⟩) HSW.out ?_
                  refine takeMH HRM.out (m2 := 4194303) (i := 21) (v := .pointer (some ⟨b1, o1 + j * 3, none⟩)) rfl (by kernel_rfl) (fun _ _ _ h => h) (Or.inl ⟨by kernel_rfl, by intro w hS; go_simp⟩) HSW.out ?_
                  refine takeMH HRM.out (m2 := 8388607) (i := 22) (v := .pointer (some ⟨b1, o1 + j * 3 + 1, none⟩)) rfl (by kernel_rfl) (fun _ _ _ h => h) (Or.inl ⟨by kernel_rfl, by intro w hS; go_simp⟩) HSW.out ?_
                  refine takeMH HRM.out (m2 := 16777215) (i := 23) (v := .int .u8 3) rfl (by kernel_rfl) (fun _ _ _ h => h) (Or.inl ⟨by kernel_rfl, by intro w hS; have hc := (hS.cell (p := ⟨b1, o1 + j * 3 + 1, none⟩) hb6).trans x1; go_simp⟩) HSW.out ?_
                  refine takeMH HRM.out (m2 := 33554431) (i := 24) (v := .int .i64 3) rfl (by kernel_rfl) (fun _ _ _ h => h) (Or.inl ⟨by kernel_rfl, by intro w hS; go_simp⟩) HSW.out ?_
                  refine takeMH HRM.out (m2 := 67108863) (i := 25) (v := .bool true) rfl (by kernel_rfl) (fun _ _ _ h => h) (Or.inl ⟨by kernel_rfl, by intro w hS; go_simp⟩) HSW.out ?_
                  refine takeMH HRM.out (m2 := 134217727) (i := 26) (v := .bool true) rfl (by kernel_rfl) (fun _ _ _ h => h) (Or.inl ⟨by kernel_rfl, by intro w hS; go_simp⟩) HSW.out ?_
                  refine takeMH HRM.out (m2 := 268435455) (i := 27) (v := .bool true) rfl (by kernel_rfl) (fun _ _ _ h => h) (Or.inl ⟨by kernel_rfl, by intro w hS; go_simp⟩) HSW.out ?_
                  refine takeMH HRM.out (m2 := 536870911) (i := 28) (v := .slice (some ⟨b1, o1, none⟩) k c1) rfl (by kernel_rfl) (fun _ _ _ h => h) (Or.inl ⟨by kernel_rfl, by intro w hS; go_simp⟩) HSW.out ?_
                  refine takeMH HRM.out (m2 := 1073741823) (i := 29) (v := .int .i64 (j : Nat)) rfl (by kernel_rfl) (fun _ _ _ h => h) (Or.inl ⟨by kernel_rfl, by intro w hS; go_simp⟩) HSW.out ?_
                  refine takeMH HRM.out (m2 := 2147483647) (i := 30) (v := .pointer (some ⟨b1, o1 + j * 3, none⟩)) rfl (by kernel_rfl) (fun _ _ _ h => h) (Or.inl ⟨by kernel_rfl, by intro w hS; go_simp⟩) HSW.out ?_
                  refine takeMH HRM.out (m2 := 4294967295) (i := 31) (v := .pointer (some ⟨b1, o1 + j * 3 + 1, none⟩)) rfl (by kernel_rfl) (fun _ _ _ h => h) (Or.inl ⟨by kernel_rfl, by intro w hS; go_simp⟩) HSW.out ?_
                  refine takeMH HRM.out (m2 := 8589934591) (i := 32) (v := .int .u8 3) rfl (by kernel_rfl) (fun _ _ _ h => h) (Or.inl ⟨by kernel_rfl, by intro w hS; have hc := (hS.cell (p := ⟨b1, o1 + j * 3 + 1, none⟩) hb6).trans x1; go_simp⟩) HSW.out ?_
                  refine takeMH HRM.out (m2 := 17179869183) (i := 33) (v := .bool false) rfl (by kernel_rfl) (fun _ _ _ h => h) (Or.inl ⟨by kernel_rfl, by intro w hS; go_simp⟩) HSW.out ?_
                  refine takeMH HRM.out (m2 := 34359738367) (i := 34) (v := .bool false) rfl (by kernel_rfl) (fun _ _ _ h => h) (Or.inl ⟨by kernel_rfl, by intro w hS; go_simp⟩) HSW.out ?_
                  refine takeMH HRM.out (m2 := 68719476735) (i := 35) (v := .slice (some ⟨g, 0, none⟩) 1 c) rfl (by kernel_rfl) (fun _ _ _ h => h) (Or.inl ⟨by kernel_rfl, by intro w hS; go_simp⟩) HSW.out ?_
                  refine takeMH HRM.out (m2 := 137438953471) (i := 36) (v := .pointer (some ⟨g, 0, none⟩)) rfl (by kernel_rfl) (fun _ _ _ h => h) (Or.inl ⟨by kernel_rfl, by intro w hS; go_simp⟩) HSW.out ?_
                  refine takeMH HRM.out (m2 := 274877906943) (i := 37) (v := .pointer (some ⟨g, 1, none⟩)) rfl (by kernel_rfl) (fun _ _ _ h => h) (Or.inl ⟨by kernel_rfl, by intro w hS; go_simp⟩) HSW.out ?_
                  refine takeMH HRM.out (m2 := 549755813887) (i := 38) (v := .string rv) rfl (by kernel_rfl) (fun _ _ _ h => h) (Or.inl ⟨by kernel_rfl, by intro w hS; have hc := (hS.cell (p := ⟨g, 1, none⟩) hgw).trans m1'; go_simp⟩) HSW.out ?_
                  refine takeMH HRM.out (m2 := 1099511627775) (i := 39) (v := .slice (some ⟨b1, o1, none⟩) k c1) rfl (by kernel_rfl) (fun _ _ _ h => h) (Or.inl ⟨by kernel_rfl, by intro w hS; go_simp⟩) HSW.out ?_
                  refine takeMH HRM.out (m2 := 2199023255551) (i := 40) (v := .int .i64 (j : Nat)) rfl (by kernel_rfl) (fun _ _ _ h => h) (Or.inl ⟨by kernel_rfl, by intro w hS; go_simp⟩) HSW.out ?_
                  refine takeMH HRM.out (m2 := 4398046511103) (i := 41) (v := .pointer (some ⟨b1, o1 + j * 3, none⟩)) rfl (by kernel_rfl) (fun _ _ _ h => h) (Or.inl ⟨by kernel_rfl, by intro w hS; go_simp⟩) HSW.out ?_
                  refine takeMH HRM.out (m2 := 8796093022207) (i := 42) (v := .pointer (some ⟨b1, o1 + j * 3 + 2, none⟩)) rfl (by kernel_rfl) (fun _ _ _ h => h) (Or.inl ⟨by kernel_rfl, by intro w hS; go_simp⟩) HSW.out ?_
                  refine takeMH HRM.out (m2 := 17592186044415) (i := 43) (v := .string rv) rfl (by kernel_rfl) (fun _ _ _ h => h) (Or.inl ⟨by kernel_rfl, by intro w hS; have hc := (hS.cell (p := ⟨b1, o1 + j * 3 + 2, none⟩) hb6).trans x2; go_simp⟩) HSW.out ?_
                  refine takeMH HRM.out (m2 := 35184372088831) (i := 44) (v := .bool true) rfl (by kernel_rfl) (fun _ _ _ h => h) (Or.inl ⟨by kernel_rfl, by intro w hS; go_simp⟩) HSW.out ?_
                  refine takeMH HRM.out (m2 := 70368744177663) (i := 45) (v := .bool true) rfl (by kernel_rfl) (fun _ _ _ h => h) (Or.inl ⟨by kernel_rfl, by intro w hS; go_simp⟩) HSW.out ?_
                  refine takeMH HRM.out (m2 := 140737488355327) (i := 46) (v := .bool true) rfl (by kernel_rfl) (fun _ _ _ h => h) (Or.inl ⟨by kernel_rfl, by intro w hS; go_simp⟩) HSW.out ?_
                  refine takeMH HRM.out (m2 := 281474976710655) (i := 47) (v := .bool true) rfl (by kernel_rfl) (fun _ _ _ h => h) (Or.inl ⟨by kernel_rfl, by intro w hS; go_simp⟩) HSW.out ?_
                  refine wpAnyH_ready (rs := [48]) (HRM.out.list _ (by kernel_rfl)) (by simp) ?_
                  refine AllReadyH.cons rfl (fun K hK => ?_) AllReadyH.nil
                  go_simp
                  go_at_call 23
                  refine (awake_any _).mono ?_
                  rintro e w7 ⟨rfl, hb⟩
                  have HS7 : Hid (Below w6.heap.size w6 w7) := Lib.hid (by first | exact (Below.refl _ _).drew.trans hb | exact hb)
                  clear hb HSW
                  refine hK.out _ _ HS7.out (fun HSX => ?_)
                  refine behindMH (m2 := 562949953421311) (by kernel_rfl) ?_
                  clear hK K HSX
                  have HSW := HS7
                  refine takeMH HRM.out (m2 := 1125899906842623) (i := 49) (v := .bool true) rfl (by kernel_rfl) (fun _ _ _ h => h) (Or.inl ⟨by kernel_rfl, by intro w hS; go_simp⟩) HSW.out ?_
                  refine takeMH HRM.out (m2 := 2251799813685247) (i := 50) (v := .bool true) rfl (by kernel_rfl) (fun _ _ _ h => h) (Or.inl ⟨by kernel_rfl, by intro w hS; go_simp⟩) HSW.out ?_
                  refine wpAnyH_done (HRM.out.list _ (by kernel_rfl)) ?_ _
                  go_wp2
                  go_ret
                  exact ⟨rfl, B6.out.trans (HS7.out.mono B6.out.size)⟩
                · have t4 : ((a2 : Int) != 3) = true := by simp; omega
                  have t6 : ¬ (a2 : Int) = 3 := by omega
                  have t8 : ¬ a2 = 3 := h3
                  clear hva
                  refine takeMH HRM.out (m2 := 1) (i := 0) (v := .slice (some ⟨g, 0, none⟩) 1 c) rfl (by kernel_rfl) (fun _ _ _ h => h) (Or.inl ⟨by kernel_rfl, by intro w hS; go_simp⟩) HSW.out ?_
                  refine takeMH HRM.out (m2 := 3) (i := 1) (v := .int .i64 1) rfl (by kernel_rfl) (fun _ _ _ h => h) (Or.inl ⟨by kernel_rfl, by intro w hS; go_simp⟩) HSW.out ?_
                  refine takeMH HRM.out (m2 := 7) (i := 2) (v := .bool true) rfl (by kernel_rfl) (fun _ _ _ h => h) (Or.inl ⟨by kernel_rfl, by intro w hS; go_simp⟩) HSW.out ?_
                  refine takeMH HRM.out (m2 := 15) (i := 3) (v := .bool true) rfl (by kernel_rfl) (fun _ _ _ h => h) (Or.inl ⟨by kernel_rfl, by intro w hS; go_simp⟩) HSW.out ?_
                  refine takeMH HRM.out (m2 := 31) (i := 4) (v := .slice (some ⟨g, 0, none⟩) 1 c) rfl (by kernel_rfl) (fun _ _ _ h => h) (Or.inl ⟨by kernel_rfl, by intro w hS; go_simp⟩) HSW.out ?_
                  refine takeMH HRM.out (m2 := 63) (i := 5) (v := .pointer (some ⟨g, 0, none⟩)) rfl (by kernel_rfl) (fun _ _ _ h => h) (Or.inl ⟨by kernel_rfl, by intro w hS; go_simp⟩) HSW.out ?_
                  refine takeMH HRM.out (m2 := 127) (i := 6) (v := .pointer (some ⟨g, 0, none⟩)) rfl (by kernel_rfl) (fun _ _ _ h => h) (Or.inl ⟨by kernel_rfl, by intro w hS; go_simp⟩) HSW.out ?_
                  refine takeMH HRM.out (m2 := 255) (i := 7) (v := .string nm0) rfl (by kernel_rfl) (fun _ _ _ h => h) (Or.inl ⟨by kernel_rfl, by intro w hS; have hc := (hS.cell (p := ⟨g, 0, none⟩) hgw).trans m0'; go_simp⟩) HSW.out ?_
                  refine takeMH HRM.out (m2 := 511) (i := 8) (v := .slice (some ⟨b1, o1, none⟩) k c1) rfl (by kernel_rfl) (fun _ _ _ h => h) (Or.inl ⟨by kernel_rfl, by intro w hS; go_simp⟩) HSW.out ?_
                  refine takeMH HRM.out (m2 := 1023) (i := 9) (v := .pointer (some ⟨b1, o1, none⟩)) rfl (by kernel_rfl) (fun _ _ _ h => h) (Or.inl ⟨by kernel_rfl, by intro w hS; go_simp⟩) HSW.out ?_
                  refine takeMH HRM.out (m2 := 2047) (i := 10) (v := .pointer (some ⟨b1, o1, none⟩)) rfl (by kernel_rfl) (fun _ _ _ h => h) (Or.inl ⟨by kernel_rfl, by intro w hS; go_simp⟩) HSW.out ?_
                  refine takeMH HRM.out (m2 := 4095) (i := 11) (v := .string nm0) rfl (by kernel_rfl) (fun _ _ _ h => h) (Or.inl ⟨by kernel_rfl, by intro w hS; have hc := (hS.cell (p := ⟨b1, o1, none⟩) hb6).trans lc6; go_simp⟩) HSW.out ?_
                  refine takeMH HRM.out (m2 := 8191) (i := 12) (v := .bool true) rfl (by kernel_rfl) (fun _ _ _ h => h) (Or.inl ⟨by kernel_rfl, by intro w hS; go_simp⟩) HSW.out ?_
                  refine takeMH HRM.out (m2 := 16383) (i := 13) (v := .bool true) rfl (by kernel_rfl) (fun _ _ _ h => h) (Or.inl ⟨by kernel_rfl, by intro w hS; go_simp⟩) HSW.out ?_
                  refine takeMH HRM.out (m2 := 32767) (i := 14) (v := .bool true) rfl (by kernel_rfl) (fun _ _ _ h => h) (Or.inl ⟨by kernel_rfl, by intro w hS; go_simp⟩) HSW.out ?_
                  refine takeMH HRM.out (m2 := 65535) (i := 15) (v := .slice (some ⟨g, 0, none⟩) 1 c) rfl (by kernel_rfl) (fun _ _ _ h => h) (Or.inl ⟨by kernel_rfl, by intro w hS; go_simp⟩) HSW.out ?_
                  refine takeMH HRM.out (m2 := 131071) (i := 16) (v := .pointer (some ⟨g, 0, none⟩)) rfl (by kernel_rfl) (fun _ _ _ h => h) (Or.inl ⟨by kernel_rfl, by intro w hS; go_simp⟩) HSW.out ?_
                  refine takeMH HRM.out (m2 := 262143) (i := 17) (v := .pointer (some ⟨g, 2, none⟩)) rfl (by kernel_rfl) (fun _ _ _ h => h) (Or.inl ⟨by kernel_rfl, by intro w hS; go_simp⟩) HSW.out ?_
                  refine takeMH HRM.out (m2 := 524287) (i := 18) (v := .int .i64 (a2 : Nat)) rfl (by kernel_rfl) (fun _ _ _ h => h) (Or.inl ⟨by kernel_rfl, by intro w hS; have hc := (hS.cell (p := ⟨g, 2, none⟩) hgw).trans m2'; go_simp⟩) HSW.out ?_
                  refine takeMH HRM.out (m2 := 1048575) (i := 19) (v := .slice (some ⟨b1, o1, none⟩) k c1) rfl (by kernel_rfl) (fun _ _ _ h => h) (Or.inl ⟨by kernel_rfl, by intro w hS; go_simp⟩) HSW.out ?_
                  refine takeMH HRM.out (m2 := 2097151) (i := 20) (v := .int .i64 (j : Nat)) rfl (by kernel_rfl) (fun _ _ _ h => h) (Or.inl ⟨by kernel_rfl, by intro w hS; go_simp⟩) HSW.out ?_
                  refine takeMH HRM.out (m2 := 4194303) (i := 21) (v := .pointer (some ⟨b1, o1 + j * 3, none⟩)) rfl (by kernel_rfl) (fun _ _ _ h => h) (Or.inl ⟨by kernel_rfl, by intro w hS; go_simp⟩) HSW.out ?_
                  refine takeMH HRM.out (m2 := 8388607) (i := 22) (v := .pointer (some ⟨b1, o1 + j * 3 + 1, none⟩)) rfl (by kernel_rfl) (fun _ _ _ h => h) (Or.inl ⟨by kernel_rfl, by intro w hS; go_simp⟩) HSW.out ?_
                  refine takeMH HRM.out (m2 := 16777215) (i := 23) (v := .int .u8 (a2 : Nat)) rfl (by kernel_rfl) (fun _ _ _ h => h) (Or.inl ⟨by kernel_rfl, by intro w hS; have hc := (hS.cell (p := ⟨b1, o1 + j * 3 + 1, none⟩) hb6).trans x1; go_simp⟩) HSW.out ?_
                  refine takeMH HRM.out (m2 := 33554431) (i := 24) (v := .int .i64 (a2 : Nat)) rfl (by kernel_rfl) (fun _ _ _ h => h) (Or.inl ⟨by kernel_rfl, by intro w hS; go_simp⟩) HSW.out ?_
                  refine takeMH HRM.out (m2 := 67108863) (i := 25) (v := .bool true) rfl (by kernel_rfl) (fun _ _ _ h => h) (Or.inl ⟨by kernel_rfl, by intro w hS; go_simp⟩) HSW.out ?_
                  refine takeMH HRM.out (m2 := 134217727) (i := 26) (v := .bool true) rfl (by kernel_rfl) (fun _ _ _ h => h) (Or.inl ⟨by kernel_rfl, by intro w hS; go_simp⟩) HSW.out ?_
                  refine takeMH HRM.out (m2 := 268435455) (i := 27) (v := .bool true) rfl (by kernel_rfl) (fun _ _ _ h => h) (Or.inl ⟨by kernel_rfl, by intro w hS; go_simp⟩) HSW.out ?_
                  refine takeMH HRM.out (m2 := 536870911) (i := 28) (v := .slice (some ⟨b1, o1, none⟩) k c1) rfl (by kernel_rfl) (fun _ _ _ h => h) (Or.inl ⟨by kernel_rfl, by intro w hS; go_simp⟩) HSW.out ?_
                  refine takeMH HRM.out (m2 := 1073741823) (i := 29) (v := .int .i64 (j : Nat)) rfl (by kernel_rfl) (fun _ _ _ h => h) (Or.inl ⟨by kernel_rfl, by intro w hS; go_simp⟩) HSW.out ?_
                  refine takeMH HRM.out (m2 := 2147483647) (i := 30) (v := .pointer (some ⟨b1, o1 + j * 3, none⟩)) rfl (by kernel_rfl) (fun _ _ _ h => h) (Or.inl ⟨by kernel_rfl, by intro w hS; go_simp⟩) HSW.out ?_
                  refine takeMH HRM.out (m2 := 4294967295) (i := 31) (v := .pointer (some ⟨b1, o1 + j * 3 + 1, none⟩)) rfl (by kernel_rfl) (fun _ _ _ h => h) (Or.inl ⟨by kernel_rfl, by intro w hS; go_simp⟩) HSW.out ?_
                  refine takeMH HRM.out (m2 := 8589934591) (i := 32) (v := .int .u8 (a2 : Nat)) rfl (by kernel_rfl) (fun _ _ _ h => h) (Or.inl ⟨by kernel_rfl, by intro w hS; have hc := (hS.cell (p := ⟨b1, o1 + j * 3 + 1, none⟩) hb6).trans x1; go_simp⟩) HSW.out ?_
                  refine takeMH HRM.out (m2 := 17179869183) (i := 33) (v := .bool true) rfl (by kernel_rfl) (fun _ _ _ h => h) (Or.inl ⟨by kernel_rfl, by intro w hS; go_simp⟩) HSW.out ?_
                  refine takeMH HRM.out (m2 := 34359738367) (i := 34) (v := .bool true) rfl (by kernel_rfl) (fun _ _ _ h => h) (Or.inl ⟨by kernel_rfl, by intro w hS; go_simp⟩) HSW.out ?_
                  refine takeMH HRM.out (m2 := 68719476735) (i := 35) (v := undef) rfl (by kernel_rfl) (fun _ _ _ h => h) (Or.inr ⟨by kernel_rfl, rfl⟩) HSW.out ?_
                  refine takeMH HRM.out (m2 := 137438953471) (i := 36) (v := undef) rfl (by kernel_rfl) (fun _ _ _ h => h) (Or.inr ⟨by kernel_rfl, rfl⟩) HSW.out ?_
                  refine takeMH HRM.out (m2 := 274877906943) (i := 37) (v := undef) rfl (by kernel_rfl) (fun _ _ _ h => h) (Or.inr ⟨by kernel_rfl, rfl⟩) HSW.out ?_
                  refine takeMH HRM.out (m2 := 549755813887) (i := 38) (v := undef) rfl (by kernel_rfl) (fun _ _ _ h => h) (Or.inr ⟨by kernel_rfl, rfl⟩) HSW.out ?_
                  refine takeMH HRM.out (m2 := 1099511627775) (i := 39) (v := undef) rfl (by kernel_rfl) (fun _ _ _ h => h) (Or.inr ⟨by kernel_rfl, rfl⟩) HSW.out ?_
                  refine takeMH HRM.out (m2 := 2199023255551) (i := 40) (v := undef) rfl (by kernel_rfl) (fun _ _ _ h => h) (Or.inr ⟨by kernel_rfl, rfl⟩) HSW.out ?_
                  refine takeMH HRM.out (m2 := 4398046511103) (i := 41) (v := undef) rfl (by kernel_rfl) (fun _ _ _ h => h) (Or.inr ⟨by kernel_rfl, rfl⟩) HSW.out ?_
                  refine takeMH HRM.out (m2 := 8796093022207) (i := 42) (v := undef) rfl (by kernel_rfl) (fun _ _ _ h => h) (Or.inr ⟨by kernel_rfl, rfl⟩) HSW.out ?_
                  refine takeMH HRM.out (m2 := 17592186044415) (i := 43) (v := undef) rfl (by kernel_rfl) (fun _ _ _ h => h) (Or.inr ⟨by kernel_rfl, rfl⟩) HSW.out ?_
                  refine takeMH HRM.out (m2 := 35184372088831) (i := 44) (v := undef) rfl (by kernel_rfl) (fun _ _ _ h => h) (Or.inr ⟨by kernel_rfl, rfl⟩) HSW.out ?_
                  refine takeMH HRM.out (m2 := 70368744177663) (i := 45) (v := .bool true) rfl (by kernel_rfl) (fun _ _ _ h => h) (Or.inl ⟨by kernel_rfl, by intro w hS; go_simp⟩) HSW.out ?_
                  refine takeMH HRM.out (m2 := 140737488355327) (i := 46) (v := .bool true) rfl (by kernel_rfl) (fun _ _ _ h => h) (Or.inl ⟨by kernel_rfl, by intro w hS; go_simp⟩) HSW.out ?_
                  refine takeMH HRM.out (m2 := 281474976710655) (i := 47) (v := .bool true) rfl (by kernel_rfl) (fun _ _ _ h => h) (Or.inl ⟨by kernel_rfl, by intro w hS; go_simp⟩) HSW.out ?_
                  refine wpAnyH_ready (rs := [48]) (HRM.out.list _ (by kernel_rfl)) (by simp) ?_
                  refine AllReadyH.cons rfl (fun K hK => ?_) AllReadyH.nil
                  go_simp
                  go_at_call 23
                  refine (awake_any _).mono ?_
                  rintro e w7 ⟨rfl, hb⟩
                  have HS7 : Hid (Below w6.heap.size w6 w7) := Lib.hid (by first | exact (Below.refl _ _).drew.trans hb | exact hb)
                  clear hb HSW
                  refine hK.out _ _ HS7.out (fun HSX => ?_)
                  refine behindMH (m2 := 562949953421311) (by kernel_rfl) ?_
                  clear hK K HSX
                  have HSW := HS7
                  refine takeMH HRM.out (m2 := 1125899906842623) (i := 49) (v := .bool true) rfl (by kernel_rfl) (fun _ _ _ h => h) (Or.inl ⟨by kernel_rfl, by intro w hS; go_simp⟩) HSW.out ?_
                  refine takeMH HRM.out (m2 := 2251799813685247) (i := 50) (v := .bool true) rfl (by kernel_rfl) (fun _ _ _ h => h) (Or.inl ⟨by kernel_rfl, by intro w hS; go_simp⟩) HSW.out ?_
                  refine wpAnyH_done (HRM.out.list _ (by kernel_rfl)) ?_ _
                  go_wp2
                  go_ret
                  exact ⟨rfl, B6.out.trans (HS7.out.mono B6.out.size)⟩
end Go.Proofs.YteipeagdflcjjaaDoor.Am
