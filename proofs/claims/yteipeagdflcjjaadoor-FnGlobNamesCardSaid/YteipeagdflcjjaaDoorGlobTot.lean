/- spec.GlobName ends on every pattern and every name. -/
import Derived.Test.YteipeagdflcjjaaDoorGName
import Derived.Deep.DeepCutAuto
namespace Go.Proofs.YteipeagdflcjjaaDoor
open Go.RowKit
set_option linter.unusedSimpArgs false
set_option linter.unusedVariables false

theorem least_two (P : Nat → Prop) (n : Nat) : (∃ m, 2 ≤ m ∧ m < n ∧ P m ∧ ∀ j, 2 ≤ j → j < m → ¬ P j) ∨ (∀ j, 2 ≤ j → j < n → ¬ P j) := by
  induction n with
  | zero => exact .inr fun j _ h => absurd h (Nat.not_lt_zero _)
  | succ n ih =>
    rcases ih with ⟨m, h1, h2, h3⟩ | h
    · exact .inl ⟨m, h1, by omega, h3⟩
    · by_cases hp : 2 ≤ n ∧ P n
      · exact .inl ⟨n, hp.1, by omega, hp.2, h⟩
      · refine .inr fun j h1 h2 => ?_
        by_cases e : j = n
        · subst e; exact fun h => hp ⟨h1, h⟩
        · exact h j h1 (by omega)
set_option maxHeartbeats 400000 in
theorem globEnd_tot (pb : ByteArray) (hs : pb.size ≤ 4611686018427387904) :
    ∃ m, (m = 0 ∨ (2 ≤ m ∧ m < pb.size)) ∧ ∀ w : World, Calls Tryd.prog 33 #[.string pb] w fun e w' => e = .returned (.int .i64 (m : Nat)) ∧ w = w' := by
  rcases least_two (fun j => bx pb j = 93) pb.size with ⟨m, h2, hm, hat, hno⟩ | hno
  · refine ⟨m, .inr ⟨h2, hm⟩, fun w => ?_⟩
    have HA := Lib.hid hat; have HN := Lib.hid hno
    clear hat hno
    go_enter Tryd.func33, Tryd.ntmps33
    go_wp2
    go_loop [3] (fun i => ∃ k : Nat, 2 ≤ k ∧ k ≤ m ∧ i = .int .i64 k) (fun i => m - (intOf i).toNat)
    case atStart => exact ⟨2, by omega, h2, rfl⟩
    case round =>
      obtain ⟨k, hk2, hkm, rfl⟩ := hrel
      have hb := bx_get pb k (by omega)
      by_cases e : k = m
      · subst e
        rw [HA.out] at hb
        go_wp2
        go_ret
        exact ⟨rfl, rfl⟩
      · have q : ((bx pb k : Int) == 93) = false := beq_eq_false_iff_ne.mpr (by have := HN.out k hk2 (by omega); omega)
        go_wp2
        go_round
        case rel => exact ⟨k + 1, by omega, by omega, by go_num⟩
        case measure => simp [intOf]; omega
  · refine ⟨0, .inl rfl, fun w => ?_⟩
    have HN := Lib.hid hno
    clear hno
    go_enter Tryd.func33, Tryd.ntmps33
    go_wp2
    go_loop [3] (fun i => ∃ k : Nat, 2 ≤ k ∧ k ≤ pb.size + 2 ∧ i = .int .i64 k) (fun i => pb.size + 2 - (intOf i).toNat)
    case atStart => exact ⟨2, by omega, by omega, rfl⟩
    case round =>
      obtain ⟨k, hk2, hkm, rfl⟩ := hrel
      by_cases hlt : k < pb.size
      · have hb := bx_get pb k hlt
        have q : ((bx pb k : Int) == 93) = false := beq_eq_false_iff_ne.mpr (by have := HN.out k hk2 hlt; omega)
        go_wp2
        go_round
        case rel => exact ⟨k + 1, by omega, by omega, by go_num⟩
        case measure => simp [intOf]; omega
      · go_wp2
        go_ret
        exact ⟨rfl, rfl⟩

/-- What a set holds, read on from place i. -/
def setGo (s : ByteArray) (c : Nat) : Nat → Nat → Bool → Bool
  | 0, _, acc => acc
  | f + 1, i, acc => if i < s.size then
      (if i + 2 < s.size ∧ bx s (i + 1) = 45 then setGo s c f (i + 3) (acc || (decide (bx s i ≤ c) && decide (c ≤ bx s (i + 2)))) else setGo s c f (i + 1) (acc || decide (bx s i = c)))
    else acc
theorem setGo_end (s : ByteArray) (c f i : Nat) (acc : Bool) (h : ¬ i < s.size) : setGo s c f i acc = acc := by
  cases f with
  | zero => rfl
  | succ f => unfold setGo; rw [if_neg h]
theorem setGo_three (s : ByteArray) (c f i : Nat) (acc : Bool) (h : i + 2 < s.size) (h2 : bx s (i + 1) = 45) : setGo s c (f + 1) i acc = setGo s c f (i + 3) (acc || (decide (bx s i ≤ c) && decide (c ≤ bx s (i + 2)))) := by
  conv => lhs; unfold setGo
  rw [if_pos (by omega), if_pos ⟨h, h2⟩]
theorem setGo_one (s : ByteArray) (c f i : Nat) (acc : Bool) (h : i < s.size) (h2 : ¬ (i + 2 < s.size ∧ bx s (i + 1) = 45)) : setGo s c (f + 1) i acc = setGo s c f (i + 1) (acc || decide (bx s i = c)) := by
  conv => lhs; unfold setGo
  rw [if_pos h, if_neg h2]

set_option maxRecDepth 100000 in
set_option maxHeartbeats 4000000 in
theorem globSet_tot (sb : ByteArray) (c : Nat) (h1 : 1 ≤ sb.size) (hs : sb.size ≤ 4611686018427387904) :
    ∃ b, ∀ w : World, Calls Tryd.prog 34 #[.string sb, .int .u8 (c : Nat)] w fun e w' => e = .returned (.bool b) ∧ w = w' := by
  obtain ⟨d, hd⟩ : ∃ d, bx sb 0 = d := ⟨_, rfl⟩
  obtain ⟨neg, hneg⟩ : ∃ neg, ((d : Int) == 94) = neg := ⟨_, rfl⟩
  obtain ⟨st, hst⟩ : ∃ st : ByteArray, st = (if neg = true then sb.extract 1 sb.size else sb) := ⟨_, rfl⟩
  refine ⟨setGo st c st.size 0 false != neg, fun w => ?_⟩
  have hb := bx_get sb 0 (by omega)
  rw [hd] at hb
  have HST := Lib.hid hst
  have hsz : st.size ≤ 4611686018427387904 := by
    rw [hst]; split
    · rw [size_tail]; omega
    · exact hs
  have HSZ := Lib.hid hsz
  clear hd hst hsz
  go_enter Tryd.func34, Tryd.ntmps34
  go_upto_if 11 with (fail)
  clear hb hneg
  go_cut [0] (fun t wx => t = .string st ∧ w = wx)
  case first =>
    cases neg with
    | true =>
      have H := Lib.hid (HST.out.trans (if_pos rfl))
      go_wp2
      go_meet
      case rel => exact ⟨by rw [H.out], rfl⟩
    | false =>
      have H := Lib.hid (HST.out.trans (if_neg (by decide)))
      go_wp2
      go_meet
      case rel => exact ⟨by rw [H.out], rfl⟩
  case rest =>
    clear HST h1 hs
    obtain ⟨rfl, rfl⟩ := hcut
    have hs := HSZ.out
    go_wp2
    go_loop [6, 7] (fun b i => ∃ (f k : Nat) (acc : Bool), setGo st c st.size 0 false = setGo st c f k acc ∧ st.size ≤ k + f ∧ k ≤ st.size + 3 ∧ b = .bool acc ∧ i = .int .i64 k) (fun _ i => st.size + 3 - (intOf i).toNat)
    case atStart => exact ⟨st.size, 0, false, rfl, by omega, by omega, rfl, rfl⟩
    case round =>
      obtain ⟨f, k, acc, hgo, hf, hk, rfl, rfl⟩ := hrel
      have HG := Lib.hid hgo; clear hgo
      by_cases hlt : k < st.size
      · obtain ⟨f, rfl⟩ : ∃ f', f = f' + 1 := ⟨f - 1, by omega⟩
        have hb0 := bx_get st k hlt
        by_cases h3 : k + 2 < st.size ∧ bx st (k + 1) = 45
        · have HG2 := Lib.hid (HG.out.trans (setGo_three st c f k acc h3.1 h3.2))
          have hk2 : k + 2 < st.size := h3.1
          have hk1 : k + 1 < st.size := by clear h3 HG2; omega
          have hb1 := bx_get st (k + 1) hk1
          have hb2 := bx_get st (k + 2) hk2
          rw [h3.2] at hb1
          have hlt2 : (k : Int) + 2 < st.size := by omega
          clear h3 HG
          generalize bx st k = x at hb0 HG2
          generalize bx st (k + 2) = y at hb2 HG2
          cases acc with
          | true =>
            have HG3 : Hid (setGo st c st.size 0 false = setGo st c f (k + 3) true) := Lib.hid (HG2.out.trans (by rw [Bool.true_or]))
            go_wp2
            go_round
            case rel => exact ⟨f, k + 3, true, HG3.out, by omega, by omega, rfl, by go_num⟩
            case measure => simp [intOf]; omega
          | false =>
            by_cases hx : (x : Int) ≤ c
            · have HG3 : Hid (setGo st c st.size 0 false = setGo st c f (k + 3) (decide (c ≤ y))) := Lib.hid (HG2.out.trans (by rw [Bool.false_or, decide_eq_true (by omega), Bool.true_and]))
              have hdd : decide ((c : Int) ≤ y) = decide (c ≤ y) := by rw [decide_eq_decide]; omega
              go_wp2
              go_round
              case rel => exact ⟨f, k + 3, decide (c ≤ y), HG3.out, by omega, by omega, by rw [← hdd], by go_num⟩
              case measure => simp [intOf]; omega
            · have HG3 : Hid (setGo st c st.size 0 false = setGo st c f (k + 3) false) := Lib.hid (HG2.out.trans (by rw [Bool.false_or, decide_eq_false (show ¬ x ≤ c by omega), Bool.false_and]))
              go_wp2
              go_round
              case rel => exact ⟨f, k + 3, false, HG3.out, by omega, by omega, rfl, by go_num⟩
              case measure => simp [intOf]; omega
        · have HG2 := Lib.hid (HG.out.trans (setGo_one st c f k acc hlt h3))
          obtain ⟨q, hq⟩ : ∃ q, ((bx st k : Int) == (c : Int)) = q := ⟨_, rfl⟩
          have HQ : Hid (decide (bx st k = c) = q) := Lib.hid (by rw [← hq, Bool.eq_iff_iff, decide_eq_true_iff, beq_iff_eq]; omega)
          have HG3 : Hid (setGo st c st.size 0 false = setGo st c f (k + 1) (acc || q)) := Lib.hid (by rw [HG2.out, HQ.out])
          generalize bx st k = x at hb0 hq
          clear HG HG2 HQ
          by_cases hlt2 : (k : Int) + 2 < st.size
          · have hk1 : k + 1 < st.size := by clear h3 HG3; omega
            have hb1 := bx_get st (k + 1) hk1
            have h45 : ((bx st (k + 1) : Int) == 45) = false := beq_eq_false_iff_ne.mpr (by intro e; exact h3 ⟨by omega, by omega⟩)
            generalize bx st (k + 1) = y at hb1 h45
            clear h3
            cases acc with
            | true =>
              go_wp2
              go_round
              case rel => exact ⟨f, k + 1, true, HG3.out, by omega, by omega, rfl, by go_num⟩
              case measure => simp [intOf]; omega
            | false =>
              go_wp2
              go_round
              case rel => exact ⟨f, k + 1, q, HG3.out, by omega, by omega, rfl, by go_num⟩
              case measure => simp [intOf]; omega
          · clear h3
            cases acc with
            | true =>
              go_wp2
              go_round
              case rel => exact ⟨f, k + 1, true, HG3.out, by omega, by omega, rfl, by go_num⟩
              case measure => simp [intOf]; omega
            | false =>
              go_wp2
              go_round
              case rel => exact ⟨f, k + 1, q, HG3.out, by omega, by omega, rfl, by go_num⟩
              case measure => simp [intOf]; omega
      · have HG2 : Hid (setGo st c st.size 0 false = acc) := Lib.hid (HG.out.trans (setGo_end st c f k acc hlt))
        go_wp2
        go_ret
        refine ⟨?_, rfl⟩
        rw [HG2.out]
        first | rfl | (cases acc <;> cases neg <;> rfl)
end Go.Proofs.YteipeagdflcjjaaDoor
