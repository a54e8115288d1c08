/- Numbers by sevens of bits, the high ones first: what is written, and that it is read back, in plain Lean. -/
import Derived.Test.YtgibmkgibkhemaaDoorPackLeb
namespace Go.Proofs.YtgibmkgibkhemaaDoor
open Go.RowKit
set_option linter.unusedSimpArgs false
set_option linter.unusedVariables false

/-- The groups ahead of some, of a number that is left. -/
def offL : Nat → Nat → List Nat → List Nat
  | 0, _, acc => acc
  | f + 1, q, acc => if q = 0 then acc else offL f ((q - 1) / 128) ((128 + (q - 1) % 128) :: acc)
def offE (n : Nat) : List Nat := offL 20 (n / 128) [n % 128]
def oLen : Nat → Nat → Nat
  | 0, _ => 0
  | f + 1, q => if q = 0 then 0 else 1 + oLen f ((q - 1) / 128)
theorem offL_len (f : Nat) : ∀ q acc, (offL f q acc).length = oLen f q + acc.length := by
  induction f with
  | zero => intro q acc; simp [offL, oLen]
  | succ f ih =>
    intro q acc
    unfold offL oLen
    split
    · simp
    · rw [ih]; simp; omega
theorem oLen_mono (f : Nat) : ∀ q r, q ≤ r → oLen f q ≤ oLen f r := by
  induction f with
  | zero => intro q r h; exact Nat.le_refl _
  | succ f ih =>
    intro q r h
    unfold oLen
    by_cases h1 : q = 0
    · rw [if_pos h1]; exact Nat.zero_le _
    · rw [if_neg h1, if_neg (by omega)]
      have := ih ((q - 1) / 128) ((r - 1) / 128) (Nat.div_le_div_right (by omega))
      omega
theorem offE_mono (n m : Nat) (h : n ≤ m) : (offE n).length ≤ (offE m).length := by
  unfold offE
  rw [offL_len, offL_len]
  have := oLen_mono 20 (n / 128) (m / 128) (Nat.div_le_div_right h)
  simp; omega
theorem oLen_le (f : Nat) : ∀ q, q ≤ 128 ^ f → oLen f q ≤ f := by
  induction f with
  | zero => intro q _; exact Nat.le_refl _
  | succ f ih =>
    intro q h
    unfold oLen
    split
    · exact Nat.zero_le _
    · have := ih ((q - 1) / 128) (by
        rw [Nat.pow_succ] at h
        have : (q - 1) / 128 ≤ (128 ^ f * 128) / 128 := Nat.div_le_div_right (by omega)
        rw [Nat.mul_div_cancel _ (by decide)] at this
        exact this)
      omega

/-- More fuel changes nothing. -/
theorem offL_more (f : Nat) : ∀ g q acc, q < 128 ^ f → f ≤ g → offL g q acc = offL f q acc := by
  induction f with
  | zero =>
    intro g q acc h _
    have : q = 0 := by simpa using h
    subst this
    cases g with
    | zero => rfl
    | succ g => unfold offL; rw [if_pos rfl]
  | succ f ih =>
    intro g q acc h hg
    cases g with
    | zero => omega
    | succ g =>
      unfold offL
      split
      · rfl
      · refine ih g _ _ ?_ (by omega)
        rw [Nat.div_lt_iff_lt_mul (by decide)]
        rw [Nat.pow_succ] at h
        omega

/-- What is read of the first groups. -/
def offVal (g : Nat → Nat) : Nat → Nat
  | 0 => g 0 % 128
  | j + 1 => (offVal g j + 1) * 128 + g (j + 1) % 128
def dec : Nat → List Nat → Nat
  | v, [] => v
  | v, d :: l => dec ((v + 1) * 128 + d % 128) l
def decQ : Nat → List Nat → Nat
  | q, [] => q
  | q, d :: l => dec (q * 128 + d % 128) l
theorem decQ_offL (f : Nat) : ∀ q d l, q < 128 ^ f → decQ 0 (offL f q (d :: l)) = decQ q (d :: l) := by
  induction f with
  | zero =>
    intro q d l h
    have : q = 0 := by simpa using h
    subst this
    rfl
  | succ f ih =>
    intro q d l h
    unfold offL
    by_cases h0 : q = 0
    · rw [if_pos h0, h0]
    · rw [if_neg h0, ih _ _ _ (by
        rw [Nat.div_lt_iff_lt_mul (by decide)]
        rw [Nat.pow_succ] at h
        omega)]
      show dec ((q - 1) / 128 * 128 + (128 + (q - 1) % 128) % 128) (d :: l) = dec (q * 128 + d % 128) l
      have e : (q - 1) / 128 * 128 + (128 + (q - 1) % 128) % 128 = q - 1 := by omega
      rw [e]
      show dec ((q - 1 + 1) * 128 + d % 128) l = _
      rw [show q - 1 + 1 = q by omega]
theorem offE_dec (n : Nat) (h : n < 128 ^ 20) : decQ 0 (offE n) = n := by
  unfold offE
  rw [decQ_offL 20 _ _ _ (by rw [Nat.div_lt_iff_lt_mul (by decide)]; rw [← Nat.pow_succ]; exact Nat.lt_trans h (Nat.pow_lt_pow_right (by decide) (by decide)))]
  show n / 128 * 128 + n % 128 % 128 = n
  omega
theorem dec_offV (g : Nat → Nat) (l : List Nat) : ∀ j, (∀ i, i < l.length → l[i]? = some (g (j + 1 + i))) → dec (offVal g j) l = offVal g (j + l.length) := by
  induction l with
  | nil => intro j _; rfl
  | cons d l ih =>
    intro j h
    have h0 := h 0 (by simp)
    simp at h0
    subst h0
    show dec (offVal g (j + 1)) l = _
    rw [ih (j + 1) (fun i hi => by
      have := h (i + 1) (by simp; omega)
      simp at this
      rw [this]
      congr 2
      omega)]
    rw [List.length_cons]
    congr 1
    omega
/-- A text of groups reads as its number. -/
theorem offE_offV (n : Nat) (h : n < 128 ^ 20) (g : Nat → Nat) (hg : ∀ i, i < (offE n).length → (offE n)[i]? = some (g i)) : offVal g ((offE n).length - 1) = n := by
  have hd := offE_dec n h
  cases hl : offE n with
  | nil =>
    have : (offE n).length = oLen 20 (n / 128) + 1 := offL_len 20 _ _
    rw [hl] at this
    simp at this
  | cons d l =>
    rw [hl] at hd hg
    have h0 := hg 0 (by simp)
    simp at h0
    subst h0
    have hd2 : dec (0 * 128 + g 0 % 128) l = n := hd
    rw [Nat.zero_mul, Nat.zero_add] at hd2
    have h2 := dec_offV g l 0 (fun i hi => by
      have := hg (i + 1) (by simp; omega)
      simp at this
      rw [this]
      congr 2
      omega)
    rw [show offVal g 0 = g 0 % 128 from rfl, hd2, Nat.zero_add] at h2
    rw [List.length_cons, Nat.add_sub_cancel]
    exact h2.symm
theorem offV_mono (g : Nat → Nat) (j : Nat) : ∀ k, j ≤ k → offVal g j ≤ offVal g k := by
  intro k
  induction k with
  | zero => intro h; rw [Nat.le_zero.mp h]; exact Nat.le_refl _
  | succ k ih =>
    intro h
    by_cases e : j = k + 1
    · subst e; exact Nat.le_refl _
    · have := ih (by omega)
      show offVal g j ≤ (offVal g k + 1) * 128 + g (k + 1) % 128
      omega
theorem offV_lt (g : Nat → Nat) (j k : Nat) (h : j < k) : (offVal g j + 1) * 128 ≤ offVal g k := by
  have h1 := offV_mono g (j + 1) k h
  have : offVal g (j + 1) = (offVal g j + 1) * 128 + g (j + 1) % 128 := rfl
  omega
/-- All groups but the last one go on. -/
theorem offL_cont (f : Nat) : ∀ q acc, (∀ c ∈ acc.dropLast, 128 ≤ c ∧ c < 256) → acc ≠ [] → (∀ c ∈ (offL f q acc).dropLast, 128 ≤ c ∧ c < 256) ∧ (offL f q acc).getLast? = acc.getLast? := by
  induction f with
  | zero => intro q acc h _; exact ⟨h, rfl⟩
  | succ f ih =>
    intro q acc h h0
    unfold offL
    split
    · exact ⟨h, rfl⟩
    · have hd : ((128 + (q - 1) % 128) :: acc).dropLast = (128 + (q - 1) % 128) :: acc.dropLast := List.dropLast_cons_of_ne_nil h0
      obtain ⟨h1, h2⟩ := ih ((q - 1) / 128) ((128 + (q - 1) % 128) :: acc) (by
        rw [hd]
        intro c hc
        rcases List.mem_cons.mp hc with hc | hc
        · subst hc; omega
        · exact h c hc) (by simp)
      refine ⟨h1, h2.trans ?_⟩
      cases acc with
      | nil => exact absurd rfl h0
      | cons a l => rfl
theorem offE_facts (n : Nat) : (∀ c ∈ (offE n).dropLast, 128 ≤ c ∧ c < 256) ∧ (offE n).getLast? = some (n % 128) := offL_cont 20 _ _ (by simp) (by simp)
theorem offE_ne (n : Nat) : 1 ≤ (offE n).length := by
  have : (offE n).length = oLen 20 (n / 128) + 1 := offL_len 20 _ _
  omega
theorem offE_at (n i : Nat) (h : i < (offE n).length) : (i + 1 < (offE n).length → 128 ≤ (offE n)[i] ∧ (offE n)[i] < 256) ∧ (i + 1 = (offE n).length → (offE n)[i] < 128) := by
  obtain ⟨h1, h2⟩ := offE_facts n
  constructor
  · intro hl
    apply h1
    have : i < (offE n).dropLast.length := by rw [List.length_dropLast]; omega
    have e : (offE n).dropLast[i] = (offE n)[i] := List.getElem_dropLast this
    rw [← e]
    exact List.getElem_mem _
  · intro hl
    rw [List.getLast?_eq_getElem?] at h2
    rw [show (offE n).length - 1 = i by omega, List.getElem?_eq_getElem h] at h2
    rw [Option.some.inj h2]
    omega
end Go.Proofs.YtgibmkgibkhemaaDoor
