/- Attributes as the laws have them: zzFits29, zzFits30, areGlobAttrs, globAttr. -/
import Derived.Test.YteipeagdflcjjaaDoorQAtI
import Derived.Test.YteipeagdflcjjaaDoorWord
namespace Go.Proofs.YteipeagdflcjjaaDoor
open Go.RowKit
set_option linter.unusedSimpArgs false
set_option linter.unusedVariables false

/-- A row of attributes. -/
def GAs (w : World) (A : Option Addr) (n : Nat) (f : Nat → AttrT) : Prop := ∀ k, k < n → ∃ b off, A = some ⟨b, off, none⟩ ∧ b < w.heap.size ∧
  w.cell? ⟨b, off + k * 3, none⟩ = some (.string (f k).1) ∧ w.cell? ⟨b, off + k * 3 + 1, none⟩ = some (.int .u8 ((f k).2.1 : Nat)) ∧ w.cell? ⟨b, off + k * 3 + 2, none⟩ = some (.string (f k).2.2) ∧
  (f k).2.1 < 256 ∧ (f k).1.size ≤ maxLen ∧ (f k).2.2.size ≤ maxLen
theorem GAs.below {w w' : World} {A : Option Addr} {n : Nat} {f : Nat → AttrT} (h : GAs w A n f) (hb : Below w.heap.size w w') : GAs w' A n f := by
  intro k hk
  obtain ⟨b, off, e, hl, h1, h2, h3, r⟩ := h k hk
  exact ⟨b, off, e, Nat.lt_of_lt_of_le hl hb.size, (hb.cell (p := ⟨b, off + k * 3, none⟩) hl).trans h1, (hb.cell (p := ⟨b, off + k * 3 + 1, none⟩) hl).trans h2, (hb.cell (p := ⟨b, off + k * 3 + 2, none⟩) hl).trans h3, r⟩

def F30 (a b : ByteArray) : Prop := a.size ≤ 2147483647 ∧ b.size ≤ 2147483647
def F29 (n : Nat) (f : Nat → AttrT) : Prop := n ≤ 2147483647 ∧ ∀ i, i < n → (f i).1.size ≤ 2147483647 ∧ (f i).2.2.size ≤ 2147483647
def FitPost (P : Prop) (w : World) (e : Ending) (w' : World) : Prop := ∃ r, e = .returned (.bool r) ∧ (r = true → P) ∧ Below w.heap.size w w'
set_option maxHeartbeats 1000000 in
theorem fits30_any (a : ByteArray) (x : Nat) (b : ByteArray) (w : World) :
    Calls Tryd.prog 30 #[.agg #[.string a, .int .u8 (x : Nat), .string b]] w (FitPost (F30 a b) w) := by
  by_cases h1 : a.size ≤ 2147483647
  · have h1' : ¬ (2147483647 : Int) < a.size := by omega
    by_cases h2 : b.size ≤ 2147483647
    · have h2' : ¬ (2147483647 : Int) < b.size := by omega
      go_enter Tryd.func30, Tryd.ntmps30
      go_wp2
      go_ret
      exact ⟨true, rfl, fun _ => (show F30 a b from ⟨h1, h2⟩), (Below.refl _ _).alloc (Nat.le_refl _) _⟩
    · have h2' : (2147483647 : Int) < b.size := by omega
      clear h2
      go_enter Tryd.func30, Tryd.ntmps30
      go_wp2
      go_ret
      exact ⟨false, rfl, fun h => (by cases h), (Below.refl _ _).alloc (Nat.le_refl _) _⟩
  · have h1' : (2147483647 : Int) < a.size := by omega
    clear h1
    go_enter Tryd.func30, Tryd.ntmps30
    go_wp2
    go_ret
    exact ⟨false, rfl, fun h => (by cases h), (Below.refl _ _).alloc (Nat.le_refl _) _⟩

set_option maxHeartbeats 2000000 in
theorem fits29_any (A : Option Addr) (n c : Nat) (f : Nat → AttrT) (w : World) (hm : n ≤ maxLen) (h : GAs w A n f) :
    Calls Tryd.prog 20 #[.slice A n c] w (FitPost (F29 n f) w) := by
  have H := Lib.hid h; clear h
  unfold maxLen at hm
  go_enter Tryd.func20, Tryd.ntmps20
  by_cases h1 : n ≤ 2147483647
  · have h1' : ¬ (2147483647 : Int) < n := by omega
    go_wp2
    go_loopw [10] (fun i wr => ∃ k : Nat, k ≤ n ∧ i = .int .i64 (k : Nat) ∧ (∀ j, j < k → (f j).1.size ≤ 2147483647 ∧ (f j).2.2.size ≤ 2147483647) ∧ Below w.heap.size w wr) (fun i _ => n - (intOf i).toNat)
    case atStart => exact ⟨0, Nat.zero_le _, rfl, fun j h => by omega, Below.refl _ _⟩
    case round =>
      obtain ⟨k, hk, rfl, hall, hbel⟩ := hrel
      have HA := Lib.hid hall; have HB := Lib.hid hbel
      clear hall hbel
      by_cases hlt : k < n
      · have hltI : (k : Int) < n := by omega
        obtain ⟨b, off, rfl, _, k0, k1, k2, _⟩ := (H.out.below HB.out) k hlt
        have HN : Hid (F30 (f k).1 (f k).2.2 → ∀ j, j < k + 1 → (f j).1.size ≤ 2147483647 ∧ (f j).2.2.size ≤ 2147483647) := Lib.hid fun h j hj => by
          by_cases e : j = k
          · subst e; exact h
          · exact HA.out j (by omega)
        generalize f k = a at k0 k1 k2 HN
        obtain ⟨a1, a2, a3⟩ := a
        dsimp only at k0 k1 k2 HN
        go_wp2_with fail
        with_reducible refine (fits30_any a1 a2 a3 _).mono ?_
        rintro e W ⟨r, rfl, hr, hb⟩
        have HR := Lib.hid hr
        have HB2 : Hid (Below w.heap.size w W) := Lib.hid ((HB.out.alloc HB.out.size _).trans (hb.mono (by rw [heap_new_size]; have := HB.out.size; omega)))
        clear hr hb k0 k1 k2
        cases r with
        | true =>
          go_wp2
          go_roundw
          case rel => exact ⟨k + 1, by omega, by go_num, HN.out (by first | exact HR.out rfl | exact HR.out trivial), HB2.out⟩
          case measure => simp [intOf]; omega
        | false =>
          go_wp2
          go_ret
          exact ⟨false, rfl, fun h => (by cases h), HB2.out⟩
      · have hltI : ¬ (k : Int) < n := by omega
        go_wp2
        go_ret
        exact ⟨true, rfl, fun _ => ⟨h1, fun i hi => HA.out i (by omega)⟩, HB.out⟩
  · have h1' : (2147483647 : Int) < n := by omega
    clear h1
    go_wp2
    go_ret
    exact ⟨false, rfl, fun h => (by cases h), Below.refl _ _⟩

/-- An attribute as it is let in. -/
def GoodA (a : AttrT) : Prop := IsWord a.1 ∧ a.2.1 ≤ 3 ∧ (a.2.1 = 3 → IsWord a.2.2) ∧ (a.2.1 ≠ 3 → a.2.2.size = 0)
/-- Its text. -/
def gaText (a : AttrT) : List Nat := if a.2.1 = 0 then 33 :: nb a.1 else if a.2.1 = 1 then nb a.1 else if a.2.1 = 2 then 45 :: nb a.1 else nb a.1 ++ 61 :: nb a.2.2
def GaPost (a : AttrT) (w : World) (e : Ending) (w' : World) : Prop := ∃ s : ByteArray, e = .returned (.string s) ∧ nb s = gaText a ∧ Below w.heap.size w w'
set_option maxRecDepth 100000 in
set_option maxHeartbeats 2000000 in
theorem globAttr_any (a1 : ByteArray) (x : Nat) (a3 : ByteArray) (w : World) (h1 : a1.size ≤ 1000) (h3 : a3.size ≤ 1000) :
    Calls Tryd.prog 25 #[.agg #[.string a1, .int .u8 (x : Nat), .string a3]] w (GaPost (a1, x, a3) w) := by
  have z1 : ¬ 9223372036854775807 < 1 + a1.size := by omega
  have z2 : ¬ 9223372036854775807 < a1.size + 1 := by omega
  have z3 : ¬ 9223372036854775807 < (a1 ++ ⟨#[61]⟩).size + a3.size := by rw [ByteArray.size_append]; show ¬ _ < a1.size + 1 + a3.size; omega
  by_cases h0 : x = 0
  · subst h0
    go_enter Tryd.func25, Tryd.ntmps25
    go_wp2
    go_ret
    exact ⟨_, rfl, by rw [nb_append]; rfl, (Below.refl _ _).alloc (Nat.le_refl _) _⟩
  · by_cases h1 : x = 1
    · subst h1
      go_enter Tryd.func25, Tryd.ntmps25
      go_wp2
      go_ret
      exact ⟨_, rfl, rfl, (Below.refl _ _).alloc (Nat.le_refl _) _⟩
    · by_cases h2 : x = 2
      · subst h2
        go_enter Tryd.func25, Tryd.ntmps25
        go_wp2
        go_ret
        exact ⟨_, rfl, by rw [nb_append]; rfl, (Below.refl _ _).alloc (Nat.le_refl _) _⟩
      · have q0 : ((x : Int) == 0) = false := beq_eq_false_iff_ne.mpr (by omega)
        have q1 : ((x : Int) == 1) = false := beq_eq_false_iff_ne.mpr (by omega)
        have q2 : ((x : Int) == 2) = false := beq_eq_false_iff_ne.mpr (by omega)
        have HT : Hid (gaText (a1, x, a3) = nb a1 ++ 61 :: nb a3) := Lib.hid (by unfold gaText; rw [if_neg h0, if_neg h1, if_neg h2])
        clear h0 h1 h2
        go_enter Tryd.func25, Tryd.ntmps25
        go_wp2
        go_ret
        exact ⟨_, rfl, by rw [nb_append, nb_append, HT.out]; simp [nb], (Below.refl _ _).alloc (Nat.le_refl _) _⟩

def goodAB (a : AttrT) : Bool := wordB a.1 && decide (a.2.1 ≤ 3) && (if a.2.1 = 3 then wordB a.2.2 else decide (a.2.2.size = 0))
theorem goodAB_iff (a : AttrT) (h : goodAB a = true) : GoodA a := by
  unfold goodAB at h
  rw [Bool.and_eq_true, Bool.and_eq_true, wordB_iff, decide_eq_true_iff] at h
  refine ⟨h.1.1, h.1.2, fun e => ?_, fun e => ?_⟩
  · have := h.2; rw [if_pos e, wordB_iff] at this; exact this
  · have := h.2; rw [if_neg e, decide_eq_true_iff] at this; exact this
def AreP (n : Nat) (f : Nat → AttrT) : Prop := 1 ≤ n ∧ n ≤ 5 ∧ (∀ i, i < n → GoodA (f i)) ∧ ∀ i j, j < i → i < n → (f i).1 ≠ (f j).1
set_option maxRecDepth 100000 in
set_option maxHeartbeats 8000000 in
theorem areGlob_any (A : Option Addr) (n c : Nat) (f : Nat → AttrT) (w : World) (hm : n ≤ 2147483647) (hnc : n ≤ c) (hc : c ≤ maxLen) (h : GAs w A n f) :
    Calls Tryd.prog 22 #[.slice A n c] w (FitPost (AreP n f) w) := by
  have H := Lib.hid h; clear h
  unfold maxLen at hc
  go_enter Tryd.func22, Tryd.ntmps22
  go_wp2
  go_loopw [9] (fun i wr => ∃ k : Nat, k ≤ n ∧ i = .int .i64 (k : Nat) ∧ (∀ j, j < k → GoodA (f j)) ∧ (∀ i j, j < i → i < k → (f i).1 ≠ (f j).1) ∧ Below w.heap.size w wr) (fun i _ => n - (intOf i).toNat)
  case atStart => exact ⟨0, Nat.zero_le _, rfl, (fun j h => by omega), (fun i j h1 h2 => by omega), Below.refl _ _⟩
  case round =>
    obtain ⟨k, hk, rfl, hall, hdis, hbel⟩ := hrel
    have HA := Lib.hid hall; have HD := Lib.hid hdis; have HB := Lib.hid hbel
    clear hall hdis hbel
    by_cases hlt : k < n
    · have hltI : (k : Int) < n := by omega
      obtain ⟨b, off, rfl, hbl, k0, k1, k2, hx256, hz1, hz3⟩ := (H.out.below HB.out) k hlt
      have HBL := Lib.hid hbl; clear hbl
      generalize hfk : f k = a at k0 k1 k2 hx256 hz1 hz3
      have HFK := Lib.hid hfk; clear hfk
      obtain ⟨a1, x, a3⟩ := a
      dsimp only at k0 k1 k2 hx256 hz1 hz3
      go_upto_region 4 with (fail)
      have HBA : Hid (Below wr.heap.size wr (wr.alloc (.cells #[.string a1, .int .u8 (x : Nat), .string a3] 42))) := Lib.hid ((Below.refl _ _).alloc (Nat.le_refl _) _)
      have HRA : Hid ((wr.alloc (.cells #[.string a1, .int .u8 (x : Nat), .string a3] 42)).heap[wr.heap.size]? = some (.cells #[.string a1, .int .u8 (x : Nat), .string a3] 42 (0, 0))) := Lib.hid (heap_new wr _)
      generalize hab : wr.heap.size = ab at *
      generalize wr.alloc (.cells #[.string a1, .int .u8 (x : Nat), .string a3] 42) = W at HBA HRA ⊢
      have HAB := Lib.hid hab
      clear hab k0 k1 k2
      have c0 : W.cell? ⟨ab, 0, none⟩ = some (.string a1) := by rw [Lib.cell_of_heap HRA.out]; rfl
      have c1 : W.cell? ⟨ab, 1, none⟩ = some (.int .u8 (x : Nat)) := by rw [Lib.cell_of_heap HRA.out]; rfl
      have c2 : W.cell? ⟨ab, 2, none⟩ = some (.string a3) := by rw [Lib.cell_of_heap HRA.out]; rfl
      have HBW : Hid (Below w.heap.size w W) := Lib.hid (HB.out.trans (HBA.out.mono (by rw [← HAB.out]; exact HB.out.size)))
      obtain ⟨G, hG⟩ : ∃ G : Bool, G = goodAB (a1, x, a3) := ⟨_, rfl⟩
      have HG := Lib.hid hG; clear hG
      go_cut [43] (fun v wx => v = .bool (!G) ∧ W = wx)
      case first =>
        have HW1 := fun V => isWord_b a1 V hz1
        have HW3 := fun V => isWord_b a3 V hz3
        have HGU : Hid (G = (wordB a1 && decide (x ≤ 3) && (if x = 3 then wordB a3 else decide (a3.size = 0)))) := Lib.hid HG.out
        generalize wordB a1 = B1 at HW1 HGU
        generalize wordB a3 = B3 at HW3 HGU
        have HWW1 := Lib.hid HW1; have HWW3 := Lib.hid HW3
        clear HW1 HW3 HG
        cases B1 with
        | false =>
          have HN : Hid (G = false) := Lib.hid (by rw [HGU.out]; rfl)
          clear HGU
          go_wp2_with fail
          with_reducible refine (HWW1.out _).mono ?_
          rintro e V ⟨rfl, rfl⟩
          go_wp2
          go_meet
          case rel => exact ⟨by rw [HN.out]; rfl, rfl⟩
        | true =>
          by_cases hx3 : x ≤ 3
          · have q1 : ¬ (3 : Int) < x := by omega
            by_cases hxe : x = 3
            · subst hxe
              have HN : Hid (G = B3) := Lib.hid (by rw [HGU.out, if_pos rfl, decide_eq_true hx3]; rfl)
              clear HGU hx3 q1
              go_wp2_with fail
              with_reducible refine (HWW1.out _).mono ?_
              rintro e V ⟨rfl, rfl⟩
              go_wp2_with fail
              with_reducible refine (HWW3.out _).mono ?_
              rintro e V ⟨rfl, rfl⟩
              cases B3
              all_goals
                go_wp2
                go_meet
                case rel => exact ⟨by rw [HN.out]; rfl, rfl⟩
            · have q2 : ((x : Int) == 3) = false := beq_eq_false_iff_ne.mpr (by omega)
              have q3 : ((x : Int) != 3) = true := by rw [bne, q2]; rfl
              by_cases hz : a3.size = 0
              · have hse := isEmpty_str a3 hz
                have HN : Hid (G = true) := Lib.hid (by rw [HGU.out, if_neg hxe, decide_eq_true hx3, decide_eq_true hz]; rfl)
                clear HGU hxe hx3 hz
                go_wp2_with fail
                with_reducible refine (HWW1.out _).mono ?_
                rintro e V ⟨rfl, rfl⟩
                go_wp2
                go_meet
                case rel => exact ⟨by rw [HN.out]; first | rfl | (rw [hse]; rfl), rfl⟩
              · have hse := isEmpty_str_not a3 hz
                have HN : Hid (G = false) := Lib.hid (by rw [HGU.out, if_neg hxe, decide_eq_true hx3, decide_eq_false hz]; rfl)
                clear HGU hxe hx3 hz
                go_wp2_with fail
                with_reducible refine (HWW1.out _).mono ?_
                rintro e V ⟨rfl, rfl⟩
                go_wp2
                all_goals
                  go_meet
                  case rel => exact ⟨by rw [HN.out]; first | rfl | (rw [hse]; rfl) | (exfalso; simp_all; done), rfl⟩
          · have q1 : (3 : Int) < x := by omega
            have HN : Hid (G = false) := Lib.hid (by rw [HGU.out, decide_eq_false hx3]; rfl)
            clear HGU hx3
            go_wp2_with fail
            with_reducible refine (HWW1.out _).mono ?_
            rintro e V ⟨rfl, rfl⟩
            go_wp2
            go_meet
            case rel => exact ⟨by rw [HN.out]; rfl, rfl⟩
      case rest =>
        obtain ⟨rfl, rfl⟩ := hcut
        clear c0 c1 c2
        cases G with
        | false =>
          go_wp2
          go_ret
          exact ⟨false, rfl, fun h => (by cases h), HBW.out⟩
        | true =>
          have hkc : (k : Int) ≤ c := by omega
          go_wp2
          go_loopw [48] (fun i wr2 => ∃ j : Nat, j ≤ k ∧ i = .int .i64 (j : Nat) ∧ (∀ i, i < j → a1 ≠ (f i).1) ∧ Below W.heap.size W wr2) (fun i _ => k - (intOf i).toNat)
          case atStart => exact ⟨0, Nat.zero_le _, rfl, (fun j h => by omega), Below.refl _ _⟩
          case round =>
            obtain ⟨j, hj, rfl, hne, hb2⟩ := hrel
            have HNE := Lib.hid hne; have HB2 := Lib.hid hb2
            clear hne hb2
            have HRA2 := Lib.hid ((HB2.out.block ab (Array.getElem?_eq_some_iff.1 HRA.out).1).trans HRA.out)
            have HBW2 : Hid (Below w.heap.size w wr) := Lib.hid (HBW.out.trans (HB2.out.mono HBW.out.size))
            have d0 : wr.cell? ⟨ab, 0, none⟩ = some (.string a1) := by rw [Lib.cell_of_heap HRA2.out]; rfl
            by_cases hjk : j < k
            · have hjI : (j : Int) < k := by omega
              obtain ⟨b', off', e', _, j0, j1, j2, _⟩ := (H.out.below HBW2.out) j (by omega)
              obtain ⟨rfl, rfl⟩ : b = b' ∧ off = off' := by cases e'; exact ⟨rfl, rfl⟩
              have HNN : Hid (a1 ≠ (f j).1 → ∀ i, i < j + 1 → a1 ≠ (f i).1) := Lib.hid fun h i hi => by
                by_cases e : i = j
                · subst e; exact h
                · exact HNE.out i (by omega)
              generalize f j = a' at j0 j1 j2 HNN
              obtain ⟨p1, p2, p3⟩ := a'
              dsimp only at j0 j1 j2 HNN
              have hab2 : ab < wr.heap.size := (Array.getElem?_eq_some_iff.1 HRA2.out).1
              have d1 : (wr.alloc (.cells #[.string p1, .int .u8 (p2 : Nat), .string p3] 42)).cell? ⟨ab, 0, none⟩ = some (.string a1) := (((Below.refl wr.heap.size wr).alloc (Nat.le_refl _) _).cell (p := ⟨ab, 0, none⟩) hab2).trans d0
              have hq := beq_str2 a1 p1
              have hE : ∃ E, (nb a1 == nb p1) = E := ⟨_, rfl⟩
              obtain ⟨E, hE⟩ := hE
              rw [hE] at hq
              cases E with
              | true =>
                go_wp2
                go_ret
                exact ⟨false, rfl, fun h => (by cases h), HBW2.out.alloc HBW2.out.size _⟩
              | false =>
                have HNX : Hid (a1 ≠ p1) := Lib.hid fun e => by rw [e] at hE; simp at hE
                clear hE
                go_wp2
                go_roundw
                case rel => exact ⟨j + 1, by omega, by go_num, HNN.out HNX.out, HB2.out.alloc HB2.out.size _⟩
                case measure => simp [intOf]; omega
            · obtain rfl : j = k := by omega
              have hjI : ¬ (j : Int) < j := by omega
              have HGA : Hid (GoodA (f j)) := Lib.hid (by rw [HFK.out]; exact goodAB_iff _ HG.out.symm)
              have HNE2 : Hid (∀ i, i < j → (f j).1 ≠ (f i).1) := Lib.hid (by rw [HFK.out]; exact HNE.out)
              clear d0
              go_wp2
              go_roundw
              case rel =>
                refine ⟨j + 1, by omega, by go_num, fun i hi => ?_, fun i i' h1 h2 => ?_, HBW2.out⟩
                · by_cases e : i = j
                  · subst e; exact HGA.out
                  · exact HA.out i (by omega)
                · by_cases e : i = j
                  · subst e; exact HNE2.out i' h1
                  · exact HD.out i i' h1 (by omega)
              case measure => simp [intOf]; omega
    · have hkn : k = n := by omega
      have hltI : ¬ (k : Int) < n := by omega
      by_cases h1 : 1 ≤ n
      · have h1' : (1 : Int) ≤ n := by omega
        by_cases h5 : n ≤ 5
        · have h5' : (n : Int) ≤ 5 := by omega
          have HP : Hid (AreP n f) := Lib.hid ⟨h1, h5, fun i hi => HA.out i (by omega), fun i j h2 h3 => HD.out i j h2 (by omega)⟩
          clear h1 h5 hkn
          go_wp2
          go_ret
          exact ⟨true, rfl, fun _ => HP.out, HB.out⟩
        · have h5' : ¬ (n : Int) ≤ 5 := by omega
          clear h1 h5 hkn
          go_wp2
          go_ret
          exact ⟨false, rfl, fun h => (by cases h), HB.out⟩
      · have h1' : ¬ (1 : Int) ≤ n := by omega
        clear h1 hkn
        go_wp2
        go_ret
        exact ⟨false, rfl, fun h => (by cases h), HB.out⟩
end Go.Proofs.YteipeagdflcjjaaDoor
