/- plumbing's plain loops: zzIndex, zzContains, zzSplit at the strokes, zzControl, zzContainsAny; HasPrefix, HasSuffix. -/
import Derived.Test.YtnhegjjegamdfaaDoorRfP
import Derived.Test.YtnhegjjegamdfaaDoorOwn
import Derived.Deep.DeepCutAuto
import Derived.Deep.QuietTactic
import Derived.BigQuiet
namespace Go.Proofs.YtnhegjjegamdfaaDoor
open Go.RowKit
set_option linter.unusedSimpArgs false
set_option linter.unusedVariables false

theorem nb_tail (s : ByteArray) (k : Nat) : nb (s.extract k s.size) = (nb s).drop k := by
  rw [nb_extract]
  exact List.take_of_length_le (by rw [List.length_drop, nb_length]; omega)
theorem size_tail (s : ByteArray) (k : Nat) : (s.extract k s.size).size = s.size - k := by rw [ByteArray.size_extract]; omega
def subAt (s sub : ByteArray) (i : Nat) : Bool := nb (s.extract i (i + sub.size)) == nb sub
theorem subAt_iff (s sub : ByteArray) (i : Nat) (h : i + sub.size ≤ s.size) : subAt s sub i = true ↔ ∃ a b, nb s = a ++ (nb sub ++ b) ∧ a.length = i := by
  unfold subAt
  rw [beq_iff_eq, nb_extract, show i + sub.size - i = sub.size by omega]
  constructor
  · intro e
    refine ⟨(nb s).take i, ((nb s).drop i).drop sub.size, ?_, by rw [List.length_take, nb_length]; omega⟩
    rw [← e, List.take_append_drop, List.take_append_drop]
  · rintro ⟨a, b, e, hl⟩
    rw [e, ← hl, List.drop_left, ← nb_length sub, List.take_left]
theorem has_iff (s sub : ByteArray) : Has (nb s) (nb sub) ↔ ∃ i, i + sub.size ≤ s.size ∧ subAt s sub i = true := by
  constructor
  · rintro ⟨a, b, e⟩
    have hl : a.length + sub.size ≤ s.size := by
      have := congrArg List.length e
      rw [List.length_append, List.length_append, nb_length, nb_length] at this
      omega
    exact ⟨a.length, hl, (subAt_iff s sub _ hl).mpr ⟨a, b, e, rfl⟩⟩
  · rintro ⟨i, h1, h2⟩
    obtain ⟨a, b, e, _⟩ := (subAt_iff s sub i h1).mp h2
    exact ⟨a, b, e⟩

/-- The first place, or -1. -/
def IdxAt (s sub : ByteArray) (r : Int) : Prop :=
  (r = -1 ∧ ¬ Has (nb s) (nb sub)) ∨ ∃ k : Nat, r = k ∧ k + sub.size ≤ s.size ∧ subAt s sub k = true ∧ ∀ j, j < k → subAt s sub j = false
theorem IdxAt.nonneg {s sub : ByteArray} {r : Int} (h : IdxAt s sub r) : decide (0 ≤ r) = true ↔ Has (nb s) (nb sub) := by
  rw [decide_eq_true_iff]
  rcases h with ⟨rfl, h⟩ | ⟨k, rfl, h1, h2, _⟩
  · exact ⟨fun h => by omega, fun h2 => absurd h2 h⟩
  · exact ⟨fun _ => (has_iff s sub).mpr ⟨k, h1, h2⟩, fun _ => by omega⟩
def IdxPost (s sub : ByteArray) (w : World) (e : Ending) (w' : World) : Prop :=
  ∃ r : Int, e = .returned (.int .i64 r) ∧ IdxAt s sub r ∧ w = w'

set_option maxHeartbeats 1000000 in
theorem zzIndex_any (s sub : ByteArray) (w : World) (hs : s.size ≤ 10000) (hb : sub.size ≤ 10000) :
    Calls Tryd.prog 36 #[.string s, .string sub] w (IdxPost s sub w) := by
  go_enter Tryd.func36, Tryd.ntmps36
  go_wp2
  go_loop [5] (fun i => ∃ k : Nat, i = .int .i64 k ∧ k ≤ s.size + 1 ∧ ∀ j, j < k → subAt s sub j = false) (fun i => s.size + 1 - (intOf i).toNat)
  case atStart => exact ⟨0, rfl, by omega, fun j h => by omega⟩
  case round =>
    obtain ⟨k, rfl, hk, hall⟩ := hrel
    have HA := Lib.hid hall; clear hall
    by_cases hlt : k + sub.size ≤ s.size
    · have hlti : (k : Int) + sub.size ≤ s.size := by omega
      have hq := beq_str2 (s.extract k (k + sub.size)) sub
      have hB : ∃ B, subAt s sub k = B ∧ (nb (s.extract k (k + sub.size)) == nb sub) = B := ⟨_, rfl, rfl⟩
      obtain ⟨B, hB1, hB2⟩ := hB
      rw [hB2] at hq
      have HB1 := Lib.hid hB1; clear hB1 hB2
      cases B with
      | true =>
        go_wp2
        go_ret
        exact ⟨k, rfl, .inr ⟨k, rfl, hlt, HB1.out, HA.out⟩, rfl⟩
      | false =>
        go_wp2
        go_round
        case rel =>
          refine ⟨k + 1, by go_num, by omega, fun j hj => ?_⟩
          by_cases e : j = k
          · subst e; exact HB1.out
          · exact HA.out j (by omega)
        case measure => simp [intOf] <;> omega
    · have hlti : (s.size : Int) < (k : Int) + sub.size := by omega
      have HN : Hid (¬ Has (nb s) (nb sub)) := Lib.hid (fun h => by
        obtain ⟨i, h1, h2⟩ := (has_iff s sub).mp h
        rw [HA.out i (by omega)] at h2
        cases h2)
      go_wp2
      go_ret
      exact ⟨-1, rfl, .inl ⟨rfl, HN.out⟩, rfl⟩

def BoolPost (Q : Prop) (w : World) (e : Ending) (w' : World) : Prop := ∃ B : Bool, e = .returned (.bool B) ∧ (B = true ↔ Q) ∧ w = w'

set_option maxHeartbeats 400000 in
theorem zzContains_any (s sub : ByteArray) (w : World) (hs : s.size ≤ 10000) (hb : sub.size ≤ 10000) :
    Calls Tryd.prog 25 #[.string s, .string sub] w (BoolPost (Has (nb s) (nb sub)) w) := by
  go_enter Tryd.func25, Tryd.ntmps25
  go_wp2_with fail
  with_reducible refine (zzIndex_any s sub w hs hb).mono ?_
  rintro e w' ⟨r, rfl, hr, rfl⟩
  have HR := Lib.hid hr.nonneg; clear hr
  go_wp2
  go_ret
  exact ⟨_, rfl, HR.out, rfl⟩

/-! ## Beginnings and ends -/
theorem pre_iff (s p : ByteArray) (h : p.size ≤ s.size) : Pre (nb s) (nb p) ↔ nb (s.extract 0 p.size) = nb p := by
  rw [nb_extract, List.drop_zero, Nat.sub_zero]
  constructor
  · rintro ⟨b, e⟩; rw [e, ← nb_length p, List.take_left]
  · intro e; exact ⟨(nb s).drop p.size, by rw [← e, List.take_append_drop]⟩
theorem pre_le {s p : ByteArray} (h : Pre (nb s) (nb p)) : p.size ≤ s.size := by
  obtain ⟨b, e⟩ := h
  have := congrArg List.length e
  rw [List.length_append, nb_length, nb_length] at this
  omega
theorem suf_iff (s p : ByteArray) (h : p.size ≤ s.size) : Suf (nb s) (nb p) ↔ nb (s.extract (s.size - p.size) s.size) = nb p := by
  rw [nb_tail]
  constructor
  · rintro ⟨a, e⟩
    have := congrArg List.length e
    rw [List.length_append, nb_length, nb_length] at this
    rw [e, show s.size - p.size = a.length by omega, List.drop_left]
  · intro e; exact ⟨(nb s).take (s.size - p.size), by rw [← e, List.take_append_drop]⟩
theorem suf_le {s p : ByteArray} (h : Suf (nb s) (nb p)) : p.size ≤ s.size := by
  obtain ⟨b, e⟩ := h
  have := congrArg List.length e
  rw [List.length_append, nb_length, nb_length] at this
  omega

set_option maxHeartbeats 400000 in
theorem hasPrefixLite_p (s p : ByteArray) (w : World) (hs : s.size ≤ 10000) (hp : p.size ≤ 10000) :
    Calls Tryd.prog 34 #[.string s, .string p] w (BoolPost (Pre (nb s) (nb p)) w) := by
  by_cases hle : p.size ≤ s.size
  · have hle' : (p.size : Int) ≤ s.size := by omega
    have hq := beq_str2 (s.extract 0 p.size) p
    have HQ := Lib.hid (pre_iff s p hle)
    have HB := Lib.hid (beq_iff_eq (a := nb (s.extract 0 p.size)) (b := nb p))
    generalize hB : (nb (s.extract 0 p.size) == nb p) = B at hq HB
    clear hB
    go_enter Tryd.func34, Tryd.ntmps34
    go_wp2
    go_ret
    exact ⟨B, rfl, HB.out.trans HQ.out.symm, rfl⟩
  · have hle' : (s.size : Int) < p.size := by omega
    go_enter Tryd.func34, Tryd.ntmps34
    go_wp2
    go_ret
    exact ⟨false, rfl, ⟨fun h => (by cases h), fun h => absurd (pre_le h) hle⟩, rfl⟩
set_option maxHeartbeats 400000 in
theorem hasPrefix_p (s p : ByteArray) (w : World) (hs : s.size ≤ 10000) (hp : p.size ≤ 10000) :
    Calls Tryd.prog 23 #[.string s, .string p] w (BoolPost (Pre (nb s) (nb p)) w) := by
  go_enter Tryd.func23, Tryd.ntmps23
  go_wp2_with fail
  with_reducible refine (hasPrefixLite_p _ _ _ hs hp).mono ?_
  rintro e w' ⟨B, rfl, hB, rfl⟩
  have HB := Lib.hid hB; clear hB
  go_wp2
  go_ret
  exact ⟨B, rfl, HB.out, rfl⟩
set_option maxHeartbeats 400000 in
theorem hasSuffixLite_p (s p : ByteArray) (w : World) (hs : s.size ≤ 10000) (hp : p.size ≤ 10000) :
    Calls Tryd.prog 37 #[.string s, .string p] w (BoolPost (Suf (nb s) (nb p)) w) := by
  by_cases hle : p.size ≤ s.size
  · have hle' : (p.size : Int) ≤ s.size := by omega
    have hq := beq_str2 (s.extract (s.size - p.size) s.size) p
    have HQ := Lib.hid (suf_iff s p hle)
    have HB := Lib.hid (beq_iff_eq (a := nb (s.extract (s.size - p.size) s.size)) (b := nb p))
    generalize hB : (nb (s.extract (s.size - p.size) s.size) == nb p) = B at hq HB
    clear hB
    obtain ⟨d, hd⟩ : ∃ d, s.size - p.size = d := ⟨_, rfl⟩
    rw [hd] at hq
    have e1 : (s.size : Int) - p.size = (d : Int) := by omega
    have hds : d ≤ s.size := by omega
    clear hd
    go_enter Tryd.func37, Tryd.ntmps37
    go_wp2
    go_ret
    exact ⟨B, rfl, HB.out.trans HQ.out.symm, rfl⟩
  · have hle' : (s.size : Int) < p.size := by omega
    go_enter Tryd.func37, Tryd.ntmps37
    go_wp2
    go_ret
    exact ⟨false, rfl, ⟨fun h => (by cases h), fun h => absurd (suf_le h) hle⟩, rfl⟩
set_option maxHeartbeats 400000 in
theorem hasSuffix_p (s p : ByteArray) (w : World) (hs : s.size ≤ 10000) (hp : p.size ≤ 10000) :
    Calls Tryd.prog 29 #[.string s, .string p] w (BoolPost (Suf (nb s) (nb p)) w) := by
  go_enter Tryd.func29, Tryd.ntmps29
  go_wp2_with fail
  with_reducible refine (hasSuffixLite_p _ _ _ hs hp).mono ?_
  rintro e w' ⟨B, rfl, hB, rfl⟩
  have HB := Lib.hid hB; clear hB
  go_wp2
  go_ret
  exact ⟨B, rfl, HB.out, rfl⟩

/-! ## Control signs -/
set_option maxHeartbeats 1000000 in
theorem zzControl_any (s : ByteArray) (w : World) (hs : s.size ≤ 10000) :
    Calls Tryd.prog 30 #[.string s] w (BoolPost (∃ c ∈ nb s, ctl c) w) := by
  go_enter Tryd.func30, Tryd.ntmps30
  go_wp2
  go_loop [3] (fun i => ∃ k : Nat, k ≤ s.size ∧ i = .int .i64 k ∧ ∀ j, j < k → ¬ ctl (bx s j)) (fun i => s.size - (intOf i).toNat)
  case atStart => exact ⟨0, Nat.zero_le _, rfl, fun j h => by omega⟩
  case round =>
    obtain ⟨k, hk, rfl, hall⟩ := hrel
    have HA := Lib.hid hall; clear hall
    by_cases hlt : k < s.size
    · have hb := bx_get s k hlt
      have hm : bx s k ∈ nb s := by rw [← bx_getElem s k (by rw [nb_length]; exact hlt)]; exact List.getElem_mem _
      have HM := Lib.hid hm; clear hm
      generalize hcc : bx s k = c at hb HM
      have HC := Lib.hid hcc; clear hcc
      by_cases h32 : (c : Int) < 32
      · go_wp2
        go_ret
        exact ⟨true, rfl, ⟨fun _ => ⟨c, HM.out, .inl (by omega)⟩, fun _ => rfl⟩, rfl⟩
      · have h32' : (32 : Int) ≤ c := by omega
        by_cases h127 : c = 127
        · have q : ((c : Int) == 127) = true := beq_iff_eq.mpr (by omega)
          go_wp2
          go_ret
          exact ⟨true, rfl, ⟨fun _ => ⟨c, HM.out, .inr h127⟩, fun _ => rfl⟩, rfl⟩
        · have q : ((c : Int) == 127) = false := beq_eq_false_iff_ne.mpr (by omega)
          go_wp2
          go_round
          case rel =>
            refine ⟨k + 1, by omega, by go_num, fun j hj => ?_⟩
            by_cases e : j = k
            · subst e
              rw [HC.out]
              exact fun h => by rcases h with h | h <;> omega
            · exact HA.out j (by omega)
          case measure => simp [intOf] <;> omega
    · have HF : Hid (¬ ∃ c ∈ nb s, ctl c) := Lib.hid (by
        rintro ⟨c, hc, h⟩
        obtain ⟨j, hj, rfl⟩ := List.mem_iff_getElem.mp hc
        rw [bx_getElem] at h
        rw [nb_length] at hj
        exact HA.out j (by omega) h)
      go_wp2
      go_ret
      exact ⟨false, rfl, ⟨fun h => (by cases h), fun h => absurd h HF.out⟩, rfl⟩
end Go.Proofs.YtnhegjjegamdfaaDoor
