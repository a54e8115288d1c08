/- PackOffset: the reference writes a number by sevens of bits. -/
import Derived.Test.YtgibmkgibkhemaaDoorOffL
import Derived.Laws.Bits128
namespace Go.Proofs.YtgibmkgibkhemaaDoor
open Go.RowKit
set_option linter.unusedSimpArgs false
set_option linter.unusedVariables false

/-- Some groups of a number, and what is left of it. -/
def OffIn (n q : Nat) (l : List Nat) : Prop := 1 ≤ l.length ∧ ∃ f, f ≤ 20 ∧ l.length + f ≤ 21 ∧ q < 128 ^ f ∧ offL f q l = offE n
theorem OffIn.start (n : Nat) (h : n ≤ 72057594037927936) : OffIn n (n / 128) [n % 128] := by
  refine ⟨by simp, 20, by omega, by simp, ?_, rfl⟩
  have h1 : n / 128 ≤ 72057594037927936 / 128 := Nat.div_le_div_right h
  exact Nat.lt_of_le_of_lt h1 (by decide)
theorem OffIn.step {n q : Nat} {l : List Nat} (h : OffIn n q l) (h0 : q ≠ 0) : OffIn n ((q - 1) / 128) ((128 + (q - 1) % 128) :: l) ∧ l.length ≤ 20 := by
  obtain ⟨h1, f, hf, hlf, hq, he⟩ := h
  cases f with
  | zero => exact absurd (by simpa using hq) h0
  | succ f =>
    unfold offL at he
    rw [if_neg h0] at he
    refine ⟨⟨by simp, f, by omega, by rw [List.length_cons]; omega, ?_, he⟩, by omega⟩
    rw [Nat.div_lt_iff_lt_mul (by decide)]
    rw [Nat.pow_succ] at hq
    omega
theorem OffIn.fin {n : Nat} {l : List Nat} (h : OffIn n 0 l) : l = offE n := by
  obtain ⟨_, f, _, _, _, he⟩ := h
  rw [← he]
  cases f with
  | zero => rfl
  | succ f => unfold offL; rw [if_pos rfl]
theorem OffIn.len {n q : Nat} {l : List Nat} (h : OffIn n q l) : l.length ≤ 21 := by
  obtain ⟨_, f, _, h2, _⟩ := h
  omega
theorem OffIn.le {n q : Nat} {l : List Nat} (h : OffIn n q l) : q < 128 ^ 20 := by
  obtain ⟨_, f, h1, h2, h3, _⟩ := h
  exact Nat.lt_of_lt_of_le h3 (Nat.pow_le_pow_right (by decide) h1)
theorem andm127 (x : Nat) (h : x < 18446744073709551616) : bits .and .u64 (x : Int) 127 = ((x % 128 : Nat) : Int) := by
  have := u64_and_nat x 127 h (by decide)
  rw [Nat.and_two_pow_sub_one_eq_mod x 7] at this
  exact this
theorem strcons (c : Nat) (hc : c < 256) (s : ByteArray) : nb (strOfNums [(c : Int)] ++ s) = c :: nb s := by
  rw [nb_append, one_nb c hc]; rfl

def OffPost (n : Nat) (w : World) (e : Ending) (w' : World) : Prop := ∃ r : ByteArray, e = .returned (.string r) ∧ nb r = offE n ∧ Below w.heap.size w w'
set_option maxRecDepth 100000 in
set_option maxHeartbeats 2000000 in
theorem packOffset_any (n : Nat) (w : World) (hn : n ≤ 72057594037927936) :
    Calls Tryd.prog 11 #[.int .u64 (n : Nat)] w (OffPost n w) := by
  have h0 := OffIn.start n hn
  have e0 := andm127 n (by omega)
  have hq : n / 128 ≤ 562949953421312 := by omega
  have e3 : ((n : Int)).fdiv (2 ^ min (Int.toNat 7) IntKind.u64.bits) = ((n / 128 : Nat) : Int) := by
    show ((n : Int)).fdiv 128 = _
    rw [Int.fdiv_eq_ediv_of_nonneg _ (by decide)]; push_cast; rfl
  have hy : n % 128 < 128 := Nat.mod_lt _ (by decide)
  generalize n % 128 = y at *
  generalize hqq : n / 128 = q at *
  have HQ := Lib.hid hqq; clear hqq
  have H0 := Lib.hid h0
  have e1 : IntKind.u8.wrap (y : Int) = (y : Int) := by rw [IntKind.wrap_u8]; omega
  have hcv := one_byte w y (by omega)
  have HR := Lib.hid (one_nb y (by omega))
  generalize strOfNums [(y : Int)] = r0 at hcv HR
  clear hn h0 hy
  go_enter Tryd.func11, Tryd.ntmps11
  go_wp2
  clear e0 e1 e3 hcv
  go_loopw [0, 3] (fun m s wr => ∃ (mm : Nat) (sb : ByteArray), m = .int .u64 (mm : Nat) ∧ s = .string sb ∧ mm ≤ 562949953421312 ∧ OffIn n mm (nb sb) ∧ Below w.heap.size w wr) (fun m _ _ => (intOf m).toNat)
  case atStart => exact ⟨q, r0, congrArg (Value.int .u64) (by have := HQ.out; omega), rfl, hq, by rw [HR.out]; exact H0.out, (Below.refl _ _).alloc (Nat.le_refl _) _⟩
  case round =>
    clear HR hq HQ
    obtain ⟨mm, sb, rfl, rfl, hmm, hst, hbel⟩ := hrel
    have hsl := hst.len
    rw [nb_length] at hsl
    have HST := Lib.hid hst; clear hst
    have HB := Lib.hid hbel; clear hbel
    by_cases h0 : mm = 0
    · subst h0
      go_wp2
      go_ret
      exact ⟨sb, rfl, HST.out.fin, HB.out⟩
    · obtain ⟨hs1, hs2⟩ := HST.out.step h0
      rw [nb_length] at hs2
      have hpos : (0 : Int) < mm := by omega
      have hpos1 : (1 : Int) ≤ mm := by omega
      obtain ⟨pp, rfl⟩ : ∃ p, mm = p + 1 := ⟨mm - 1, by omega⟩
      rw [Nat.add_sub_cancel] at hs1
      have es : ((pp + 1 : Nat) : Int) - 1 = (pp : Int) := by omega
      have ep : ((pp : Int) + 1) - 1 = (pp : Int) := by omega
      have e0 := andm127 pp (by omega)
      have e3 : ((pp : Int)).fdiv (2 ^ min (Int.toNat 7) IntKind.u64.bits) = ((pp / 128 : Nat) : Int) := by
        show ((pp : Int)).fdiv 128 = _
        rw [Int.fdiv_eq_ediv_of_nonneg _ (by decide)]; push_cast; rfl
      have hy : pp % 128 < 128 := Nat.mod_lt _ (by decide)
      have hz : pp / 128 ≤ 562949953421312 := by omega
      generalize pp % 128 = y at *
      generalize hzz : pp / 128 = z at *
      have HZ := Lib.hid hzz; clear hzz
      have e1 : IntKind.u8.wrap (y : Int) = (y : Int) := by rw [IntKind.wrap_u8]; omega
      have e2 : bits .or .u8 (y : Int) 128 = ((128 + y : Nat) : Int) := by
        rw [u8_or128_right (y : Int) (by omega) (by omega)]; omega
      have HC := Lib.hid (strcons (128 + y) (by omega) sb)
      have hcv := one_byte wr (128 + y) (by omega)
      have hr := one_nb (128 + y) (by omega)
      have hrs : (strOfNums [((128 + y : Nat) : Int)]).size = 1 := by rw [← nb_length, hr]; rfl
      clear hr
      generalize 128 + y = x at *
      generalize strOfNums [(x : Int)] = r at *
      have HN : Hid (OffIn n z (nb (r ++ sb))) := Lib.hid (by rw [HC.out]; exact hs1)
      have hl : ¬ 9223372036854775807 < r.size + sb.size := by omega
      clear hs1 hs2 hsl h0
      go_wp2
      go_roundw
      case rel => exact ⟨z, _, congrArg (Value.int .u64) (by have := HZ.out; omega), rfl, hz, HN.out, HB.out.alloc HB.out.size _⟩
      case measure => have := HZ.out; simp [intOf]; omega
end Go.Proofs.YtgibmkgibkhemaaDoor
