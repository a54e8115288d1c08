/- decodeLEB128. -/
import Derived.Test.YtgibmkgibkhemaaDoorLib
import Derived.Deep.DeepCutAuto
import Derived.Laws.BitsAllLaws
import Derived.Deep.QuietTactic
import Derived.BigQuiet
namespace Go.Proofs.YtgibmkgibkhemaaDoor
open Go.RowKit
set_option linter.unusedSimpArgs false
set_option linter.unusedVariables false

def lebN (g : Nat → Nat) : Nat → Nat
  | 0 => 0
  | j + 1 => lebN g j + (g j % 128) * 128 ^ j
theorem lebN_lt (g : Nat → Nat) (j : Nat) : lebN g j < 128 ^ j := by
  induction j with
  | zero => show 0 < 1; decide
  | succ j ih =>
    show lebN g j + (g j % 128) * 128 ^ j < 128 ^ (j + 1)
    have h : g j % 128 ≤ 127 := by omega
    have h2 := Nat.mul_le_mul_right (128 ^ j) h
    rw [Nat.pow_succ]
    omega

theorem and127 (x : Nat) (h : x < 256) : bits .and .u64 (x : Int) 127 = ((x % 128 : Nat) : Int) := by
  have := u64_and_nat x 127 (by omega) (by decide)
  rw [Nat.and_two_pow_sub_one_eq_mod x 7] at this
  exact this
set_option maxRecDepth 10000 in
theorem and128 (x : Nat) (h : x < 256) : bits .and .u64 (x : Int) 128 = if x < 128 then 0 else 128 := by
  have h2 := u64_and_nat x 128 (by omega) (by decide)
  have h3 : ∀ y, y < 256 → y &&& 128 = if y < 128 then 0 else 128 := by decide
  rw [h3 x h] at h2
  refine h2.trans ?_
  split <;> rfl
theorem shl7 (z j : Nat) (hz : z < 128) (hj : j ≤ 7) : IntKind.u64.wrap ((z : Int) * 2 ^ (j * 7)) = ((z * 128 ^ j : Nat) : Int) := by
  have e : (128 : Nat) ^ j = 2 ^ (j * 7) := by rw [Nat.mul_comm, Nat.pow_mul]
  have h2 : (128 : Nat) ^ j ≤ 128 ^ 7 := Nat.pow_le_pow_right (by decide) hj
  have h3 : z * 128 ^ j ≤ 127 * 128 ^ 7 := Nat.mul_le_mul (by omega) h2
  have h4 : (z : Int) * 2 ^ (j * 7) = ((z * 128 ^ j : Nat) : Int) := by rw [e]; push_cast; rfl
  rw [h4]
  have h5 : (z * 128 ^ j : Nat) < 18446744073709551616 := Nat.lt_of_le_of_lt h3 (by decide)
  rw [IntKind.wrap_u64]
  omega
theorem or7 (N z j : Nat) (hN : N < 128 ^ j) (hz : z < 128) (hj : j ≤ 7) : bits .or .u64 (N : Int) ((z * 128 ^ j : Nat) : Int) = ((N + z * 128 ^ j : Nat) : Int) := by
  have e : (128 : Nat) ^ j = 2 ^ (7 * j) := Nat.pow_mul 2 7 j ▸ rfl
  have h2 : (128 : Nat) ^ j ≤ 128 ^ 7 := Nat.pow_le_pow_right (by decide) hj
  have h3 : z * 128 ^ j ≤ 127 * 128 ^ 7 := Nat.mul_le_mul (by omega) h2
  have h5 : (z * 128 ^ j : Nat) < 18446744073709551616 := Nat.lt_of_le_of_lt h3 (by decide)
  have h6 : N < 18446744073709551616 := Nat.lt_of_lt_of_le (Nat.lt_of_lt_of_le hN h2) (by decide)
  rw [u64_or_nat N (z * 128 ^ j) h6 h5]
  congr 1
  rw [Nat.or_comm, Nat.mul_comm z, e]
  rw [e] at hN
  rw [← Nat.two_pow_add_eq_or_of_lt hN z, Nat.add_comm]

def DecPost (b off n k : Nat) (g : Nat → Nat) (w : World) (e : Ending) (w' : World) : Prop :=
  ∃ o C, e = .returned (.tuple #[.int .u64 (lebN g (k + 1) : Nat), .slice (some ⟨b, o, none⟩) (n - (k + 1)) C, .nilIface]) ∧ n - (k + 1) ≤ C ∧ C ≤ 9223372036854775807 ∧ (n - (k + 1) ≠ 0 → o = off + (k + 1)) ∧ Below w.heap.size w w'

set_option maxRecDepth 100000 in
set_option maxHeartbeats 2000000 in
theorem decode_any (b off n c k : Nat) (g : Nat → Nat) (w : World) (hk : k < n) (hk7 : k ≤ 7) (hn : n ≤ 100000) (hnc : n ≤ c) (hc : c ≤ 9223372036854775807) (hg : ∀ i, i < n → g i < 256)
    (hcont : ∀ i, i < k → 128 ≤ g i) (hlast : g k < 128) (hb : ∀ i, i < n → w.cell? ⟨b, off + i, none⟩ = some (.int .u8 (g i : Nat))) :
    Calls Tryd.prog 22 #[.slice (some ⟨b, off, none⟩) n c] w (DecPost b off n k g w) := by
  have HB := Lib.hid hb; clear hb
  have HC := Lib.hid hcont; clear hcont
  have HG := Lib.hid hg; clear hg
  have HL := Lib.hid hlast; clear hlast
  have hn0 : ((n : Int) == 0) = false := beq_eq_false_iff_ne.mpr (by omega)
  go_enter Tryd.func22, Tryd.ntmps22
  go_wp2
  go_loop [5, 6] (fun m s => ∃ j : Nat, j ≤ k ∧ s = .int .u64 j ∧ m = .int .u64 (lebN g j : Nat)) (fun _ s => k + 1 - (intOf s).toNat)
  case atStart => exact ⟨0, Nat.zero_le _, rfl, rfl⟩
  case round =>
    obtain ⟨j, hj, rfl, rfl⟩ := hrel
    have hcell := HB.out j (by omega)
    have h256 := HG.out j (by omega)
    generalize hx : g j = x at hcell h256
    have HX := Lib.hid hx; clear hx
    generalize hN : lebN g j = N
    have HN := Lib.hid hN; clear hN
    have h57 : (j : Int) * 7 ≤ 57 := by omega
    have hNl : N < 128 ^ j := by rw [← HN.out]; exact lebN_lt g j
    have hz : x % 128 < 128 := Nat.mod_lt _ (by decide)
    have hE1 := Lib.hid (and127 x h256)
    have hE2 := Lib.hid (shl7 (x % 128) j hz (by omega))
    have hE3 := Lib.hid (or7 N (x % 128) j hNl hz (by omega))
    have hE4 := Lib.hid (and128 x h256)
    have HN2 : Hid (lebN g (j + 1) = N + x % 128 * 128 ^ j) := Lib.hid (by show lebN g j + (g j % 128) * 128 ^ j = _; rw [HN.out, HX.out])
    clear hNl hz
    go_upto_region 10 with (fail)
    simp only [hE1.out, hE2.out, hE3.out]
    rw [← HN2.out]
    generalize hM : lebN g (j + 1) = M
    have HM := Lib.hid hM; clear hM
    by_cases h128 : x < 128
    · have hjk : j = k := by
        by_cases h : j < k
        · have := HC.out j h; rw [HX.out] at this; omega
        · omega
      subst hjk
      have e4 : bits .and .u64 (x : Int) 128 = 0 := by rw [hE4.out, if_pos h128]
      have hl1 : (j : Int) + 1 ≤ n := by omega
      have hl2 : (j : Int) + 1 ≤ c := by omega
      go_wp2
      go_quiet (fail)
      go_wp2
      all_goals go_ret3
      · exact ⟨off, 0, by rw [HM.out]; rfl, by omega, by omega, fun h => by omega, below_drewN (Below.refl _ _) _⟩
      · exact ⟨off + (j + 1), c - (j + 1), by rw [HM.out]; rfl, by omega, by omega, fun _ => rfl, below_drewN (Below.refl _ _) _⟩
    · have hjk : j < k := by
        by_cases h : j = k
        · subst h; have := HL.out; rw [HX.out] at this; omega
        · omega
      have e4 : bits .and .u64 (x : Int) 128 = 128 := by rw [hE4.out, if_neg h128]
      have e5 : ((j : Int) + 1 == (n : Int)) = false := beq_eq_false_iff_ne.mpr (by omega)
      go_wp2
      go_round
      case rel => exact ⟨j + 1, by omega, by go_num, by rw [HM.out]⟩
      case measure => simp [intOf] <;> omega

set_option maxHeartbeats 400000 in
theorem leb_any (b off n c k : Nat) (g : Nat → Nat) (w : World) (hk : k < n) (hk7 : k ≤ 7) (hn : n ≤ 1000) (hnc : n ≤ c) (hc : c ≤ 9223372036854775807) (hg : ∀ i, i < n → g i < 256)
    (hcont : ∀ i, i < k → 128 ≤ g i) (hlast : g k < 128) (hb : ∀ i, i < n → w.cell? ⟨b, off + i, none⟩ = some (.int .u8 (g i : Nat))) :
    Calls Tryd.prog 15 #[.slice (some ⟨b, off, none⟩) n c] w (DecPost b off n k g w) := by
  have HB := Lib.hid hb; clear hb
  have HC := Lib.hid hcont; clear hcont
  have HG := Lib.hid hg; clear hg
  have HL := Lib.hid hlast; clear hlast
  go_enter Tryd.func15, Tryd.ntmps15
  go_wp2_with fail
  with_reducible refine (decode_any b off n c k g w hk hk7 (Nat.le_trans hn (by decide)) hnc hc HG.out HC.out HL.out HB.out).mono ?_
  rintro e w' ⟨o, C, rfl, h1, h2, h3, hb⟩
  have H1 := Lib.hid h1; have H2 := Lib.hid h2; have H3 := Lib.hid h3; have HBB := Lib.hid hb
  clear h1 h2 h3 hb
  go_wp2
  go_ret3
  exact ⟨o, C, rfl, H1.out, H2.out, H3.out, HBB.out⟩
end Go.Proofs.YtgibmkgibkhemaaDoor
