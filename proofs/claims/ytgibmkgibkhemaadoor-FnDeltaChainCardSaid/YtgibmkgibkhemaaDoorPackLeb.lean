/- PackLeb. -/
import Derived.Test.YtgibmkgibkhemaaDoorLebOf
namespace Go.Proofs.YtgibmkgibkhemaaDoor
open Go.RowKit
set_option linter.unusedSimpArgs false
set_option linter.unusedVariables false

theorem bx_left (x t : ByteArray) (k : Nat) (h : k < x.size) : bx (x ++ t) k = bx x k := by
  unfold bx
  rw [nb_append, List.getD_eq_getElem?_getD, List.getD_eq_getElem?_getD, List.getElem?_append_left (by rw [nb_length]; exact h)]
theorem bx_right (x t : ByteArray) : bx (x ++ t) x.size = bx t 0 := by
  unfold bx
  rw [nb_append, List.getD_eq_getElem?_getD, List.getD_eq_getElem?_getD, ← nb_length x, List.getElem?_append_right (Nat.le_refl _), Nat.sub_self]
theorem lebN_congr {g h : Nat → Nat} : ∀ j, (∀ i, i < j → g i = h i) → lebN g j = lebN h j
  | 0, _ => rfl
  | j + 1, e => by
    show lebN g j + (g j % 128) * 128 ^ j = lebN h j + (h j % 128) * 128 ^ j
    rw [lebN_congr j (fun i hi => e i (by omega)), e j (by omega)]
set_option maxRecDepth 10000 in
theorem or128 (y : Nat) (h : y < 256) : bits .or .u8 (y : Int) 128 = ((y % 128 + 128 : Nat) : Int) := by
  have h2 := u8_or_nat y 128 h (by decide)
  have h3 : ∀ y, y < 256 → y ||| 128 = y % 128 + 128 := by decide
  rw [h3 y h] at h2
  exact h2
theorem one_byte (W : World) (c : Nat) (hc : c < 256) : (convert 38 9 (.slice (some ⟨W.heap.size, 0, none⟩) 1 1)).run Tryd.prog (W.alloc (.cells #[.int .u8 (c : Nat)] 5)) = .ok (.string (strOfNums [(c : Int)])) (W.alloc (.cells #[.int .u8 (c : Nat)] 5)) :=
  run_convert_bytes_arg _ 38 5 bytesKind byteKind W.heap.size 0 1 1 [(c : Int)] rfl (fun i hi => by
    obtain rfl : i = 0 := by omega
    exact World.cell?_alloc_mark W #[Value.int .u8 (c : Nat)] 5 (0, 0) 0) 9 strKind
theorem one_nb (c : Nat) (hc : c < 256) : nb (strOfNums [(c : Int)]) = [c] := nb_strOfNums [c] (fun x hx => by rw [List.mem_singleton] at hx; omega)

/-- What stands so far, and what is left of the number. -/
structure LebIn (n : Nat) (s : ByteArray) (m : Nat) : Prop where
  cont : ∀ i, i < s.size → 128 ≤ bx s i
  sum : n = lebN (bx s) s.size + m * 128 ^ s.size
  top : m < 128 ^ (8 - s.size)
  le : s.size ≤ 7
theorem LebIn.start (n : Nat) (h : n < 72057594037927936) : LebIn n ⟨#[]⟩ n := ⟨fun i hi => absurd hi (Nat.not_lt_zero _), by show n = 0 + n * 1; omega, h, by decide⟩
theorem LebIn.more {n : Nat} {s r : ByteArray} {m : Nat} (h : LebIn n s m) (hm : 128 ≤ m) (hr : nb r = [m % 128 + 128]) : LebIn n (s ++ r) (m / 128) := by
  have hsz : r.size = 1 := by rw [← nb_length, hr]; rfl
  have hs : (s ++ r).size = s.size + 1 := by rw [ByteArray.size_append, hsz]
  have hr0 : bx r 0 = m % 128 + 128 := by unfold bx; rw [hr]; rfl
  have hl := h.le
  have ht := h.top
  have h7 : s.size ≠ 7 := by
    intro e
    rw [e] at ht
    have : (128 : Nat) ^ (8 - 7) = 128 := by decide
    omega
  refine ⟨fun i hi => ?_, ?_, ?_, by omega⟩
  · by_cases e : i < s.size
    · rw [bx_left s r i e]; exact h.cont i e
    · have : i = s.size := by omega
      subst this
      rw [bx_right, hr0]; omega
  · rw [hs]
    show n = lebN (bx (s ++ r)) s.size + (bx (s ++ r) s.size % 128) * 128 ^ s.size + m / 128 * 128 ^ (s.size + 1)
    rw [lebN_congr s.size (fun i hi => bx_left s r i hi), bx_right, hr0, Nat.pow_succ, show (m % 128 + 128) % 128 = m % 128 by omega]
    have hd := Nat.div_add_mod m 128
    have e1 : m / 128 * (128 ^ s.size * 128) = (128 * (m / 128)) * 128 ^ s.size := by
      rw [Nat.mul_comm (128 ^ s.size) 128, ← Nat.mul_assoc, Nat.mul_comm (m / 128) 128]
    have hsum := h.sum
    conv at hsum => rhs; rw [← hd]
    rw [Nat.add_mul] at hsum
    rw [e1]
    omega
  · rw [hs]
    rw [Nat.div_lt_iff_lt_mul (by decide), ← Nat.pow_succ, show (8 - (s.size + 1)).succ = 8 - s.size by omega]
    exact ht

def PackPost (n : Nat) (w : World) (e : Ending) (w' : World) : Prop :=
  ∃ (r : ByteArray) (k : Nat), e = .returned (.string r) ∧ r.size = k + 1 ∧ k ≤ 7 ∧ (∀ i, i < k → 128 ≤ bx r i) ∧ bx r k < 128 ∧ lebN (bx r) (k + 1) = n ∧ Below w.heap.size w w'
theorem LebIn.fin {n : Nat} {s r : ByteArray} {m : Nat} (h : LebIn n s m) (hm : m < 128) (hr : nb r = [m]) : (s ++ r).size = s.size + 1 ∧ s.size ≤ 7 ∧ (∀ i, i < s.size → 128 ≤ bx (s ++ r) i) ∧ bx (s ++ r) s.size < 128 ∧ lebN (bx (s ++ r)) (s.size + 1) = n := by
  have hsz : r.size = 1 := by rw [← nb_length, hr]; rfl
  have hr0 : bx r 0 = m := by unfold bx; rw [hr]; rfl
  refine ⟨by rw [ByteArray.size_append, hsz], h.le, fun i hi => by rw [bx_left s r i hi]; exact h.cont i hi, by rw [bx_right, hr0]; exact hm, ?_⟩
  show lebN (bx (s ++ r)) s.size + (bx (s ++ r) s.size % 128) * 128 ^ s.size = n
  rw [lebN_congr s.size (fun i hi => bx_left s r i hi), bx_right, hr0, Nat.mod_eq_of_lt hm]
  exact h.sum.symm

set_option maxRecDepth 100000 in
set_option maxHeartbeats 2000000 in
theorem packLeb_any (n : Nat) (w : World) (hn : n < 72057594037927936) :
    Calls Tryd.prog 8 #[.int .u64 (n : Nat)] w (PackPost n w) := by
  have H0 := Lib.hid (LebIn.start n hn); clear hn
  go_enter Tryd.func8, Tryd.ntmps8
  go_wp2
  go_loopw [0, 3] (fun m s wr => ∃ (mm : Nat) (sb : ByteArray), m = .int .u64 (mm : Nat) ∧ s = .string sb ∧ LebIn n sb mm ∧ Below w.heap.size w wr) (fun m _ _ => (intOf m).toNat)
  case atStart => exact ⟨n, ⟨#[]⟩, rfl, rfl, H0.out, Below.refl _ _⟩
  case round =>
    obtain ⟨mm, sb, rfl, rfl, hst, hbel⟩ := hrel
    have hsl := hst.le
    have HST := Lib.hid hst; clear hst
    have HB := Lib.hid hbel; clear hbel
    have e1 : IntKind.u8.wrap (mm : Int) = ((mm % 256 : Nat) : Int) := by rw [IntKind.wrap_u8]; push_cast; rfl
    by_cases h128 : (128 : Int) ≤ mm
    · have e2 : bits .or .u8 ((mm % 256 : Nat) : Int) 128 = ((mm % 128 + 128 : Nat) : Int) := by
        rw [or128 (mm % 256) (Nat.mod_lt _ (by decide))]
        congr 1; omega
      have hcv := one_byte wr (mm % 128 + 128) (by omega)
      have hr := one_nb (mm % 128 + 128) (by omega)
      have HN : Hid (LebIn n (sb ++ strOfNums [((mm % 128 + 128 : Nat) : Int)]) (mm / 128)) := Lib.hid (HST.out.more (by omega) hr)
      have hrs : (strOfNums [((mm % 128 + 128 : Nat) : Int)]).size = 1 := by rw [← nb_length, hr]; rfl
      clear hr
      generalize strOfNums [((mm % 128 + 128 : Nat) : Int)] = r at hcv HN hrs
      have hl : ¬ 9223372036854775807 < sb.size + r.size := by omega
      generalize mm % 128 + 128 = y at e2 hcv
      generalize mm % 256 = z at e1 e2
      have e3 : ((mm : Int)).fdiv (2 ^ min (Int.toNat 7) IntKind.u64.bits) = ((mm / 128 : Nat) : Int) := by
        show ((mm : Int)).fdiv 128 = _
        rw [Int.fdiv_eq_ediv_of_nonneg _ (by decide)]; push_cast; rfl
      go_wp2
      go_roundw
      case rel => exact ⟨mm / 128, _, by first | rfl | go_num | (rw [e3]) | simp, rfl, HN.out, HB.out.alloc HB.out.size _⟩
      case measure => simp [intOf]; omega
    · have hcv := one_byte wr (mm % 256) (Nat.mod_lt _ (by decide))
      have hmm : mm % 256 = mm := by omega
      have hr := one_nb (mm % 256) (Nat.mod_lt _ (by decide))
      have hrs : (strOfNums [((mm % 256 : Nat) : Int)]).size = 1 := by rw [← nb_length, hr]; rfl
      have hr2 : nb (strOfNums [((mm % 256 : Nat) : Int)]) = [mm] := hr.trans (by rw [hmm])
      have HN := Lib.hid (HST.out.fin (r := strOfNums [((mm % 256 : Nat) : Int)]) (by omega) hr2)
      clear hr2
      clear hr hmm
      generalize strOfNums [((mm % 256 : Nat) : Int)] = r at hcv HN hrs
      have hl : ¬ 9223372036854775807 < sb.size + r.size := by omega
      generalize mm % 256 = z at e1 hcv
      go_wp2
      go_ret
      exact ⟨sb ++ r, sb.size, rfl, HN.out.1, HN.out.2.1, HN.out.2.2.1, HN.out.2.2.2.1, HN.out.2.2.2.2, HB.out.alloc HB.out.size _⟩
end Go.Proofs.YtgibmkgibkhemaaDoor
