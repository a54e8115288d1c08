/- config's plain loops: zzIndex, zzContains, zzCount of one sign; HasPrefix, HasSuffix. -/
import Derived.Test.YtnhegjjegamdfaaFmtRfP
import Derived.Test.YtnhegjjegamdfaaFmtOwn
import Derived.Deep.DeepCutAuto
import Derived.Deep.QuietTactic
import Derived.BigQuiet
namespace Go.Proofs.YtnhegjjegamdfaaFmt
open Go.RowKit
set_option linter.unusedSimpArgs false
set_option linter.unusedVariables false

theorem nb_tail (s : ByteArray) (k : Nat) : nb (s.extract k s.size) = (nb s).drop k := by
  rw [nb_extract]
  exact List.take_of_length_le (by rw [List.length_drop, nb_length]; omega)
theorem size_tail (s : ByteArray) (k : Nat) : (s.extract k s.size).size = s.size - k := by rw [ByteArray.size_extract]; omega
def subAt (s sub : ByteArray) (i : Nat) : Bool := nb (s.extract i (i + sub.size)) == nb sub
theorem subAt_iff (s sub : ByteArray) (i : Nat) (h : i + sub.size ≤ s.size) : subAt s sub i = true ↔ ∃ a b, nb s = a ++ (nb sub ++ b) ∧ a.length = i := by
  unfold subAt
  rw [beq_iff_eq, nb_extract, show i + sub.size - i = sub.size by omega]
  constructor
  · intro e
    refine ⟨(nb s).take i, ((nb s).drop i).drop sub.size, ?_, by rw [List.length_take, nb_length]; omega⟩
    rw [← e, List.take_append_drop, List.take_append_drop]
  · rintro ⟨a, b, e, hl⟩
    rw [e, ← hl, List.drop_left, ← nb_length sub, List.take_left]
theorem has_iff (s sub : ByteArray) : Has (nb s) (nb sub) ↔ ∃ i, i + sub.size ≤ s.size ∧ subAt s sub i = true := by
  constructor
  · rintro ⟨a, b, e⟩
    have hl : a.length + sub.size ≤ s.size := by
      have := congrArg List.length e
      rw [List.length_append, List.length_append, nb_length, nb_length] at this
      omega
    exact ⟨a.length, hl, (subAt_iff s sub _ hl).mpr ⟨a, b, e, rfl⟩⟩
  · rintro ⟨i, h1, h2⟩
    obtain ⟨a, b, e, _⟩ := (subAt_iff s sub i h1).mp h2
    exact ⟨a, b, e⟩

/-- The first place, or -1. -/
def IdxAt (s sub : ByteArray) (r : Int) : Prop :=
  (r = -1 ∧ ¬ Has (nb s) (nb sub)) ∨ ∃ k : Nat, r = k ∧ k + sub.size ≤ s.size ∧ subAt s sub k = true ∧ ∀ j, j < k → subAt s sub j = false
theorem IdxAt.nonneg {s sub : ByteArray} {r : Int} (h : IdxAt s sub r) : decide (0 ≤ r) = true ↔ Has (nb s) (nb sub) := by
  rw [decide_eq_true_iff]
  rcases h with ⟨rfl, h⟩ | ⟨k, rfl, h1, h2, _⟩
  · exact ⟨fun h => by omega, fun h2 => absurd h2 h⟩
  · exact ⟨fun _ => (has_iff s sub).mpr ⟨k, h1, h2⟩, fun _ => by omega⟩
def IdxPost (s sub : ByteArray) (w : World) (e : Ending) (w' : World) : Prop :=
  ∃ r : Int, e = .returned (.int .i64 r) ∧ IdxAt s sub r ∧ w = w'

set_option maxHeartbeats 1000000 in
theorem zzIndex_any (s sub : ByteArray) (w : World) (hs : s.size ≤ 10000) (hb : sub.size ≤ 10000) :
    Calls Tryf.prog 32 #[.string s, .string sub] w (IdxPost s sub w) := by
  go_enter Tryf.func32, Tryf.ntmps32
  go_wp2
  go_loop [5] (fun i => ∃ k : Nat, i = .int .i64 k ∧ k ≤ s.size + 1 ∧ ∀ j, j < k → subAt s sub j = false) (fun i => s.size + 1 - (intOf i).toNat)
  case atStart => exact ⟨0, rfl, by omega, fun j h => by omega⟩
  case round =>
    obtain ⟨k, rfl, hk, hall⟩ := hrel
    have HA := Lib.hid hall; clear hall
    by_cases hlt : k + sub.size ≤ s.size
    · have hlti : (k : Int) + sub.size ≤ s.size := by omega
      have hq := beq_str2 (s.extract k (k + sub.size)) sub
      have hB : ∃ B, subAt s sub k = B ∧ (nb (s.extract k (k + sub.size)) == nb sub) = B := ⟨_, rfl, rfl⟩
      obtain ⟨B, hB1, hB2⟩ := hB
      rw [hB2] at hq
      have HB1 := Lib.hid hB1; clear hB1 hB2
      cases B with
      | true =>
        go_wp2
        go_ret
        exact ⟨k, rfl, .inr ⟨k, rfl, hlt, HB1.out, HA.out⟩, rfl⟩
      | false =>
        go_wp2
        go_round
        case rel =>
          refine ⟨k + 1, by go_num, by omega, fun j hj => ?_⟩
          by_cases e : j = k
          · subst e; exact HB1.out
          · exact HA.out j (by omega)
        case measure => simp [intOf] <;> omega
    · have hlti : (s.size : Int) < (k : Int) + sub.size := by omega
      have HN : Hid (¬ Has (nb s) (nb sub)) := Lib.hid (fun h => by
        obtain ⟨i, h1, h2⟩ := (has_iff s sub).mp h
        rw [HA.out i (by omega)] at h2
        cases h2)
      go_wp2
      go_ret
      exact ⟨-1, rfl, .inl ⟨rfl, HN.out⟩, rfl⟩

def BoolPost (Q : Prop) (w : World) (e : Ending) (w' : World) : Prop := ∃ B : Bool, e = .returned (.bool B) ∧ (B = true ↔ Q) ∧ w = w'

set_option maxHeartbeats 400000 in
theorem zzContains_any (s sub : ByteArray) (w : World) (hs : s.size ≤ 10000) (hb : sub.size ≤ 10000) :
    Calls Tryf.prog 36 #[.string s, .string sub] w (BoolPost (Has (nb s) (nb sub)) w) := by
  go_enter Tryf.func36, Tryf.ntmps36
  go_wp2_with fail
  with_reducible refine (zzIndex_any s sub w hs hb).mono ?_
  rintro e w' ⟨r, rfl, hr, rfl⟩
  have HR := Lib.hid hr.nonneg; clear hr
  go_wp2
  go_ret
  exact ⟨_, rfl, HR.out, rfl⟩

/-! ## Beginnings and ends -/
theorem pre_iff (s p : ByteArray) (h : p.size ≤ s.size) : Pre (nb s) (nb p) ↔ nb (s.extract 0 p.size) = nb p := by
  rw [nb_extract, List.drop_zero, Nat.sub_zero]
  constructor
  · rintro ⟨b, e⟩; rw [e, ← nb_length p, List.take_left]
  · intro e; exact ⟨(nb s).drop p.size, by rw [← e, List.take_append_drop]⟩
theorem pre_le {s p : ByteArray} (h : Pre (nb s) (nb p)) : p.size ≤ s.size := by
  obtain ⟨b, e⟩ := h
  have := congrArg List.length e
  rw [List.length_append, nb_length, nb_length] at this
  omega
theorem suf_iff (s p : ByteArray) (h : p.size ≤ s.size) : Suf (nb s) (nb p) ↔ nb (s.extract (s.size - p.size) s.size) = nb p := by
  rw [nb_tail]
  constructor
  · rintro ⟨a, e⟩
    have := congrArg List.length e
    rw [List.length_append, nb_length, nb_length] at this
    rw [e, show s.size - p.size = a.length by omega, List.drop_left]
  · intro e; exact ⟨(nb s).take (s.size - p.size), by rw [← e, List.take_append_drop]⟩
theorem suf_le {s p : ByteArray} (h : Suf (nb s) (nb p)) : p.size ≤ s.size := by
  obtain ⟨b, e⟩ := h
  have := congrArg List.length e
  rw [List.length_append, nb_length, nb_length] at this
  omega

set_option maxHeartbeats 400000 in
theorem hasPrefixLite_p (s p : ByteArray) (w : World) (hs : s.size ≤ 10000) (hp : p.size ≤ 10000) :
    Calls Tryf.prog 46 #[.string s, .string p] w (BoolPost (Pre (nb s) (nb p)) w) := by
  by_cases hle : p.size ≤ s.size
  · have hle' : (p.size : Int) ≤ s.size := by omega
    have hq := beq_str2 (s.extract 0 p.size) p
    have HQ := Lib.hid (pre_iff s p hle)
    have HB := Lib.hid (beq_iff_eq (a := nb (s.extract 0 p.size)) (b := nb p))
    generalize hB : (nb (s.extract 0 p.size) == nb p) = B at hq HB
    clear hB
    go_enter Tryf.func46, Tryf.ntmps46
    go_wp2
    go_ret
    exact ⟨B, rfl, HB.out.trans HQ.out.symm, rfl⟩
  · have hle' : (s.size : Int) < p.size := by omega
    go_enter Tryf.func46, Tryf.ntmps46
    go_wp2
    go_ret
    exact ⟨false, rfl, ⟨fun h => (by cases h), fun h => absurd (pre_le h) hle⟩, rfl⟩
set_option maxHeartbeats 400000 in
theorem hasPrefix_p (s p : ByteArray) (w : World) (hs : s.size ≤ 10000) (hp : p.size ≤ 10000) :
    Calls Tryf.prog 39 #[.string s, .string p] w (BoolPost (Pre (nb s) (nb p)) w) := by
  go_enter Tryf.func39, Tryf.ntmps39
  go_wp2_with fail
  with_reducible refine (hasPrefixLite_p _ _ _ hs hp).mono ?_
  rintro e w' ⟨B, rfl, hB, rfl⟩
  have HB := Lib.hid hB; clear hB
  go_wp2
  go_ret
  exact ⟨B, rfl, HB.out, rfl⟩
set_option maxHeartbeats 400000 in
theorem hasSuffixLite_p (s p : ByteArray) (w : World) (hs : s.size ≤ 10000) (hp : p.size ≤ 10000) :
    Calls Tryf.prog 47 #[.string s, .string p] w (BoolPost (Suf (nb s) (nb p)) w) := by
  by_cases hle : p.size ≤ s.size
  · have hle' : (p.size : Int) ≤ s.size := by omega
    have hq := beq_str2 (s.extract (s.size - p.size) s.size) p
    have HQ := Lib.hid (suf_iff s p hle)
    have HB := Lib.hid (beq_iff_eq (a := nb (s.extract (s.size - p.size) s.size)) (b := nb p))
    generalize hB : (nb (s.extract (s.size - p.size) s.size) == nb p) = B at hq HB
    clear hB
    obtain ⟨d, hd⟩ : ∃ d, s.size - p.size = d := ⟨_, rfl⟩
    rw [hd] at hq
    have e1 : (s.size : Int) - p.size = (d : Int) := by omega
    have hds : d ≤ s.size := by omega
    clear hd
    go_enter Tryf.func47, Tryf.ntmps47
    go_wp2
    go_ret
    exact ⟨B, rfl, HB.out.trans HQ.out.symm, rfl⟩
  · have hle' : (s.size : Int) < p.size := by omega
    go_enter Tryf.func47, Tryf.ntmps47
    go_wp2
    go_ret
    exact ⟨false, rfl, ⟨fun h => (by cases h), fun h => absurd (suf_le h) hle⟩, rfl⟩
set_option maxHeartbeats 400000 in
theorem hasSuffix_p (s p : ByteArray) (w : World) (hs : s.size ≤ 10000) (hp : p.size ≤ 10000) :
    Calls Tryf.prog 40 #[.string s, .string p] w (BoolPost (Suf (nb s) (nb p)) w) := by
  go_enter Tryf.func40, Tryf.ntmps40
  go_wp2_with fail
  with_reducible refine (hasSuffixLite_p _ _ _ hs hp).mono ?_
  rintro e w' ⟨B, rfl, hB, rfl⟩
  have HB := Lib.hid hB; clear hB
  go_wp2
  go_ret
  exact ⟨B, rfl, HB.out, rfl⟩


/-! ## How often a sign stands in a text -/
def cnt (l : List Nat) (c : Nat) : Nat := l.countP (fun x => x == c)
theorem cnt_step (s : ByteArray) (k c : Nat) (h : k < s.size) : cnt ((nb s).take (k + 1)) c = cnt ((nb s).take k) c + (if bx s k = c then 1 else 0) := by
  unfold cnt
  rw [List.take_succ_eq_append_getElem (by rw [nb_length]; exact h), List.countP_append, bx_getElem]
  congr 1
  by_cases e : bx s k = c
  · rw [if_pos e, e]; simp
  · rw [if_neg e]; simp [e]
theorem one_at (s : ByteArray) (k : Nat) (h : k < s.size) : nb (s.extract k (k + 1)) = [bx s k] := by
  rw [nb_extract, show k + 1 - k = 0 + 1 by omega, List.drop_eq_getElem_cons (by rw [nb_length]; exact h), bx_getElem]; rfl
def CountPost (s : ByteArray) (c : Nat) (w : World) (e : Ending) (w' : World) : Prop := e = .returned (.int .i64 (cnt (nb s) c : Nat)) ∧ w = w'
set_option maxRecDepth 100000 in
set_option maxHeartbeats 1000000 in
theorem zzCount_any (s : ByteArray) (x : UInt8) (w : World) (hs : s.size ≤ 10000) :
    Calls Tryf.prog 31 #[.string s, .string ⟨#[x]⟩] w (CountPost s x.toNat w) := by
  have hx1 : (⟨#[x]⟩ : ByteArray).size = 1 := rfl
  have hxn : nb ⟨#[x]⟩ = [x.toNat] := rfl
  have HXN := Lib.hid hxn
  clear hxn
  generalize (⟨#[x]⟩ : ByteArray) = sub at hx1 HXN
  have HX1 := Lib.hid hx1
  have hi1 : (sub.size : Int) = 1 := by omega
  have hi0 : ((sub.size : Int) == 0) = false := beq_eq_false_iff_ne.mpr (by omega)
  go_enter Tryf.func31, Tryf.ntmps31
  go_wp2
  go_loop [5, 6] (fun n i => ∃ k : Nat, k ≤ s.size ∧ i = .int .i64 k ∧ n = .int .i64 (cnt ((nb s).take k) x.toNat : Nat)) (fun _ i => s.size - (intOf i).toNat)
  case atStart => exact ⟨0, Nat.zero_le _, rfl, rfl⟩
  case round =>
    obtain ⟨k, hk, rfl, rfl⟩ := hrel
    have hcl : cnt ((nb s).take k) x.toNat ≤ 10000 := by
      unfold cnt
      have := List.countP_le_length (p := fun y => y == x.toNat) (l := (nb s).take k)
      rw [List.length_take, nb_length] at this
      omega
    by_cases hlt : k < s.size
    · have hst := cnt_step s k x.toNat hlt
      have hlti : (k : Int) + sub.size ≤ s.size := by omega
      have hsl : (k : Int) + 1 ≤ s.size := by omega
      have hq := beq_str2 (s.extract k (k + 1)) sub
      rw [one_at s k hlt, HXN.out] at hq
      generalize cnt ((nb s).take k) x.toNat = n at hst hcl
      by_cases he : bx s k = x.toNat
      · rw [if_pos he] at hst
        have hB : ([bx s k] == [x.toNat]) = true := by rw [he]; simp
        rw [hB] at hq
        have HST := Lib.hid hst
        clear he hB hst
        go_wp2
        go_round
        case rel => exact ⟨k + 1, by omega, by go_num, by rw [HST.out]; go_num⟩
        case measure => simp [intOf]; omega
      · rw [if_neg he] at hst
        have hB : ([bx s k] == [x.toNat]) = false := by
          rw [beq_eq_false_iff_ne]; intro h; exact he (List.cons.inj h).1
        rw [hB] at hq
        have HST := Lib.hid hst
        clear he hB hst
        go_wp2
        go_round
        case rel => exact ⟨k + 1, by omega, by go_num, by rw [HST.out]; rfl⟩
        case measure => simp [intOf]; omega
    · have hlti : (s.size : Int) < (k : Int) + sub.size := by omega
      have hfin : cnt ((nb s).take k) x.toNat = cnt (nb s) x.toNat := by rw [List.take_of_length_le (by rw [nb_length]; omega)]
      have HFIN := Lib.hid hfin
      clear hfin
      go_wp2
      go_ret
      exact ⟨by rw [← HFIN.out]; rfl, rfl⟩
end Go.Proofs.YtnhegjjegamdfaaFmt
