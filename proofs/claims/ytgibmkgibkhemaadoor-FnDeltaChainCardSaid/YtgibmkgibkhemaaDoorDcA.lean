/- Deltas in plain Lean: operations, their bytes, what they give. -/
import Derived.Test.YtgibmkgibkhemaaDoorLib
namespace Go.Proofs.YtgibmkgibkhemaaDoor
open Go.RowKit
set_option linter.unusedSimpArgs false
set_option linter.unusedVariables false

/-- An operation: bytes that are put in, or a piece of the source (where, how long). -/
abbrev DOp : Type := Sum (List Nat) (Nat × Nat)
def optB (x : Nat) : List Nat := if x = 0 then [] else [x]
def bit1 (x : Nat) : Nat := if x = 0 then 0 else 1
def cpyCode (o n : Nat) : Nat := 128 + bit1 (o % 256) + 2 * bit1 (o / 256) + 16 * bit1 (n % 256) + 32 * bit1 (n / 256)
def cpyEnc (o n : Nat) : List Nat := cpyCode o n :: ((optB (o % 256) ++ optB (o / 256)) ++ (optB (n % 256) ++ optB (n / 256)))
def opEnc : DOp → List Nat
  | .inl l => l.length :: l
  | .inr (o, n) => cpyEnc o n
def opOut (S : List Nat) : DOp → List Nat
  | .inl l => l
  | .inr (o, n) => (S.drop o).take n
def opOk (N : Nat) : DOp → Prop
  | .inl l => 1 ≤ l.length ∧ l.length ≤ 127
  | .inr (o, n) => o + n ≤ N ∧ 16 ≤ n
def encs (ops : List DOp) : List Nat := ops.flatMap opEnc
def outs (S : List Nat) (ops : List DOp) : List Nat := ops.flatMap (opOut S)
def lebE (n : Nat) : List Nat := if n < 128 then [n] else [n % 128 + 128, n / 128]
theorem encs_append (a b : List DOp) : encs (a ++ b) = encs a ++ encs b := by unfold encs; rw [List.flatMap_append]
theorem outs_append (S : List Nat) (a b : List DOp) : outs S (a ++ b) = outs S a ++ outs S b := by unfold outs; rw [List.flatMap_append]
theorem encs_one (a : DOp) : encs [a] = opEnc a := by simp [encs]
theorem outs_one (S : List Nat) (a : DOp) : outs S [a] = opOut S a := by simp [outs]
theorem optB_len (x : Nat) : (optB x).length = bit1 x := by unfold optB bit1; split <;> rfl
theorem bit1_le (x : Nat) : bit1 x ≤ 1 := by unfold bit1; split <;> omega
theorem cpyEnc_len (o n : Nat) : (cpyEnc o n).length = 1 + (bit1 (o % 256) + bit1 (o / 256)) + (bit1 (n % 256) + bit1 (n / 256)) := by
  unfold cpyEnc
  simp only [List.length_cons, List.length_append, optB_len]
  omega
theorem opEnc_len {N : Nat} {a : DOp} (S : List Nat) (hS : S.length = N) (h : opOk N a) : (opEnc a).length ≤ 2 * (opOut S a).length := by
  cases a with
  | inl l =>
    have h1 : 1 ≤ l.length := h.1
    show l.length + 1 ≤ 2 * l.length
    omega
  | inr p =>
    obtain ⟨o, n⟩ := p
    have h1 : o + n ≤ N := h.1
    have h2 : 16 ≤ n := h.2
    show (cpyEnc o n).length ≤ 2 * ((S.drop o).take n).length
    rw [cpyEnc_len, List.length_take, List.length_drop, hS]
    have := bit1_le (o % 256); have := bit1_le (o / 256); have := bit1_le (n % 256); have := bit1_le (n / 256)
    omega
theorem encs_len {N : Nat} {ops : List DOp} (S : List Nat) (hS : S.length = N) (h : ∀ a ∈ ops, opOk N a) : (encs ops).length ≤ 2 * (outs S ops).length := by
  induction ops with
  | nil => exact Nat.le_refl _
  | cons a l ih =>
    have h1 := opEnc_len S hS (h a (by simp))
    have h2 := ih (fun x hx => h x (by simp [hx]))
    have e1 : encs (a :: l) = opEnc a ++ encs l := rfl
    have e2 : outs S (a :: l) = opOut S a ++ outs S l := rfl
    rw [e1, e2, List.length_append, List.length_append]
    omega
theorem lebE_len (n : Nat) : (lebE n).length ≤ 2 := by unfold lebE; split <;> simp
theorem lebE_lt {n : Nat} (h : n < 16384) : ∀ c ∈ lebE n, c < 256 := by
  intro c hc
  unfold lebE at hc
  split at hc
  · simp at hc; omega
  · simp at hc; omega
theorem bit1_lt {x : Nat} (c : Nat) (h : c ∈ optB x) (hx : x < 256) : c < 256 := by
  unfold optB at h
  split at h
  · cases h
  · simp at h; omega
theorem cpyCode_lt (o n : Nat) : cpyCode o n < 256 ∧ 128 ≤ cpyCode o n := by
  unfold cpyCode
  have := bit1_le (o % 256); have := bit1_le (o / 256); have := bit1_le (n % 256); have := bit1_le (n / 256)
  omega
theorem opEnc_lt {N : Nat} {a : DOp} (hN : N < 65536) (h : opOk N a) (hl : ∀ l, a = .inl l → ∀ c ∈ l, c < 256) : ∀ c ∈ opEnc a, c < 256 := by
  cases a with
  | inl l =>
    have h2 : l.length ≤ 127 := h.2
    intro c hc
    rcases List.mem_cons.mp hc with hc | hc
    · omega
    · exact hl l rfl c hc
  | inr p =>
    obtain ⟨o, n⟩ := p
    have h1 : o + n ≤ N := h.1
    intro c hc
    rcases List.mem_cons.mp hc with hc | hc
    · rw [hc]; exact (cpyCode_lt o n).1
    · rcases List.mem_append.mp hc with hc | hc <;> rcases List.mem_append.mp hc with hc | hc
      · exact bit1_lt c hc (Nat.mod_lt _ (by decide))
      · exact bit1_lt c hc (by omega)
      · exact bit1_lt c hc (Nat.mod_lt _ (by decide))
      · exact bit1_lt c hc (by omega)
end Go.Proofs.YtgibmkgibkhemaaDoor
