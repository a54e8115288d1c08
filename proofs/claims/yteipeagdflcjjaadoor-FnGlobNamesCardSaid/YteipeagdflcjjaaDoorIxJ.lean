/- Lists of paths, paths joined, lists compared. -/
import Derived.Test.YteipeagdflcjjaaDoorIxG
import Derived.Test.YteipeagdflcjjaaDoorGlob
namespace Go.Proofs.YteipeagdflcjjaaDoor.Ix
open Go.RowKit
set_option linter.unusedSimpArgs false
set_option linter.unusedVariables false

/-- A list of lists of strings. -/
def Paths (w : World) (A : Option Addr) (n : Nat) (N : Nat → Nat) (F : Nat → Nat → ByteArray) : Prop :=
  ∀ i, i < n → ∃ b off A' c', A = some ⟨b, off, none⟩ ∧ b < w.heap.size ∧ w.cell? ⟨b, off + i, none⟩ = some (.slice A' (N i) c') ∧ N i ≤ maxLen ∧ Strs w A' (N i) (F i)
theorem Paths.below {w w' : World} {A : Option Addr} {n : Nat} {N : Nat → Nat} {F : Nat → Nat → ByteArray} (h : Paths w A n N F) (hb : Below w.heap.size w w') : Paths w' A n N F := by
  intro i hi
  obtain ⟨b, off, A', c', h1, h2, h3, h4, h5⟩ := h i hi
  exact ⟨b, off, A', c', h1, Nat.lt_of_lt_of_le h2 hb.size, (hb.cell (p := ⟨b, off + i, none⟩) h2).trans h3, h4, h5.below hb⟩
def Fits18Post (n : Nat) (N : Nat → Nat) (F : Nat → Nat → ByteArray) (w : World) (e : Ending) (w' : World) : Prop :=
  ∃ r, e = .returned (.bool r) ∧ (r = true → n ≤ 2147483647 ∧ ∀ i, i < n → N i ≤ 2147483647 ∧ ∀ j, j < N i → (F i j).size ≤ 2147483647) ∧ w = w'
set_option maxHeartbeats 400000 in
theorem fits18_any (A : Option Addr) (n c : Nat) (N : Nat → Nat) (F : Nat → Nat → ByteArray) (w : World) (hm : n ≤ maxLen) (h : Paths w A n N F) :
    Calls Tryd.prog 10 #[.slice A n c] w (Fits18Post n N F w) := by
  have H := Lib.hid h; clear h
  unfold maxLen at hm
  go_enter Tryd.func10, Tryd.ntmps10
  by_cases h1 : (n : Int) ≤ 2147483647
  · go_wp2
    go_loop [10] (fun i => ∃ k : Nat, k ≤ n ∧ i = .int .i64 k ∧ ∀ i, i < k → N i ≤ 2147483647 ∧ ∀ j, j < N i → (F i j).size ≤ 2147483647) (fun i => n - (intOf i).toNat)
    case atStart => exact ⟨0, Nat.zero_le _, rfl, fun j h => by omega⟩
    case round =>
      obtain ⟨k, hk, rfl, hall⟩ := hrel
      have HA := Lib.hid hall; clear hall
      by_cases hlt : k < n
      · obtain ⟨b, off, A', c', rfl, hb, hc, hN, hS⟩ := H.out k hlt
        have HS := Lib.hid hS; have HN := Lib.hid hN
        clear hS hN hb
        go_wp2_with fail
        with_reducible refine (fits3_any A' (N k) c' (F k) _ HN.out HS.out).mono ?_
        rintro e w' ⟨r, rfl, hr, rfl⟩
        have HR := Lib.hid hr; clear hr
        cases r with
        | false =>
          go_wp2
          go_ret
          exact ⟨false, rfl, fun h => (by cases h), rfl⟩
        | true =>
          go_wp2
          go_round
          case rel =>
            refine ⟨k + 1, by omega, by go_num, fun j hj => ?_⟩
            by_cases e : j = k
            · subst e; exact HR.out (by trivial)
            · exact HA.out j (by omega)
          case measure => simp [intOf]; omega
      · obtain rfl : k = n := by omega
        go_wp2
        go_ret
        exact ⟨true, rfl, fun _ => ⟨by omega, HA.out⟩, rfl⟩
  · have h1' : (2147483647 : Int) < n := by omega
    go_wp2
    go_ret
    exact ⟨false, rfl, fun h => (by cases h), rfl⟩

def JoinPost (n : Nat) (f : Nat → ByteArray) (S : Nat) (w : World) (e : Ending) (w' : World) : Prop :=
  ∃ t : ByteArray, e = .returned (.string t) ∧ nb t = gt f false n ∧ t.size ≤ n * (S + 1) ∧ w = w'
set_option maxHeartbeats 1000000 in
theorem joined_any (A : Option Addr) (n c S : Nat) (f : Nat → ByteArray) (w : World) (hn : n ≤ 2147483647) (hS : S ≤ 2147483647) (hf : ∀ i, i < n → (f i).size ≤ S) (h : Strs w A n f) :
    Calls Tryd.prog 14 #[.slice A n c] w (JoinPost n f S w) := by
  have H := Lib.hid h; have HF := Lib.hid hf
  clear h hf
  go_enter Tryd.func14, Tryd.ntmps14
  go_wp2
  go_loop [3, 8] (fun t i => ∃ (k : Nat) (s : ByteArray), k ≤ n ∧ t = .string s ∧ i = .int .i64 k ∧ nb s = gt f false k ∧ s.size ≤ k * (S + 1)) (fun _ i => n - (intOf i).toNat)
  case atStart => exact ⟨0, ⟨#[]⟩, Nat.zero_le _, rfl, rfl, rfl, Nat.zero_le _⟩
  case round =>
    obtain ⟨k, s, hk, rfl, rfl, hs, hsz⟩ := hrel
    have HS := Lib.hid hs; clear hs
    have hmul : k * (S + 1) ≤ 2147483647 * 2147483648 := Nat.mul_le_mul (by omega) (by omega)
    by_cases hlt : k < n
    · obtain ⟨b, off, rfl, _, hc⟩ := H.out.at k hlt
      have hfk := HF.out k hlt
      have hstep : (k + 1) * (S + 1) = k * (S + 1) + (S + 1) := by rw [Nat.add_mul, Nat.one_mul]
      by_cases h0 : k = 0
      · have HN : Hid (nb (s ++ f k) = gt f false (k + 1)) := Lib.hid (by
          rw [nb_append, HS.out]; show _ = gt f false k ++ (if k = 0 then [] else [47]) ++ nb (f k); rw [if_pos h0, List.append_nil])
        have HZ : Hid ((s ++ f k).size ≤ (k + 1) * (S + 1)) := Lib.hid (by rw [ByteArray.size_append, hstep]; omega)
        have h0' : ¬ (0 : Int) < k := by omega
        clear h0
        go_wp2
        go_round
        case rel => exact ⟨k + 1, _, by omega, rfl, by go_num, HN.out, HZ.out⟩
        case measure => simp [intOf]; omega
      · have HN : Hid (nb ((s ++ ⟨#[47]⟩) ++ f k) = gt f false (k + 1)) := Lib.hid (by
          rw [nb_append, nb_append, HS.out]; show _ = gt f false k ++ (if k = 0 then [] else [47]) ++ nb (f k); rw [if_neg h0]; rfl)
        have hz1 : (⟨#[47]⟩ : ByteArray).size = 1 := rfl
        have HZ : Hid (((s ++ ⟨#[47]⟩) ++ f k).size ≤ (k + 1) * (S + 1)) := Lib.hid (by rw [ByteArray.size_append, ByteArray.size_append, hstep, hz1]; omega)
        have h0' : (0 : Int) < k := by omega
        clear h0
        go_wp2
        go_round
        case rel => exact ⟨k + 1, _, by omega, rfl, by go_num, HN.out, HZ.out⟩
        case measure => simp [intOf]; omega
    · obtain rfl : k = n := by omega
      go_wp2
      go_ret
      exact ⟨s, rfl, HS.out, hsz, rfl⟩

set_option maxHeartbeats 1000000 in
theorem lineSame_any (A1 A2 : Option Addr) (n c1 c2 : Nat) (f : Nat → ByteArray) (w : World) (hn : n ≤ maxLen) (h1 : Strs w A1 n f) (h2 : Strs w A2 n f) :
    Calls Tryd.prog 18 #[.slice A1 n c1, .slice A2 n c2] w fun e w' => e = .returned (.bool true) ∧ ∃ m, w' = w.drewN m := by
  have H1 := Lib.hid h1; have H2 := Lib.hid h2
  clear h1 h2
  unfold maxLen at hn
  go_enter Tryd.func18, Tryd.ntmps18
  go_wp2
  go_loopw [13] (fun i wr => ∃ k m : Nat, k ≤ n ∧ i = .int .i64 k ∧ wr = w.drewN m) (fun i _ => n - (intOf i).toNat)
  case atStart => exact ⟨0, 0, Nat.zero_le _, rfl, rfl⟩
  case round =>
    obtain ⟨k, m, hk, rfl, hwr⟩ := hrel
    have HW := Lib.hid hwr
    by_cases hlt : k < n
    · obtain ⟨b, off, rfl, _, hc⟩ := H1.out.at k hlt
      obtain ⟨b2, off2, rfl, _, hc2⟩ := H2.out.at k hlt
      have hq : (!((f k).toList == (f k).toList)) = false := by simp
      have hc' : wr.cell? ⟨b, off + k, none⟩ = some (.string (f k)) := by rw [hwr]; exact hc
      have hc2' : wr.cell? ⟨b2, off2 + k, none⟩ = some (.string (f k)) := by rw [hwr]; exact hc2
      clear hc hc2 hwr
      go_wp2
      go_quiet (fail)
      go_wp2
      go_roundw
      case rel => exact ⟨k + 1, _, by omega, by go_num, by rw [HW.out]; first | exact World.drewN_drewN _ _ _ | rfl⟩
      case measure => simp [intOf]; omega
    · obtain rfl : k = n := by omega
      go_wp2
      go_ret
      first | exact ⟨rfl, m, HW.out⟩ | exact ⟨rfl, m, rfl⟩
end Go.Proofs.YteipeagdflcjjaaDoor.Ix
