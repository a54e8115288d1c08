/- A refspec as an argument: zzFits8, spec.IsRefspec. -/
import Derived.Test.YtnhegjjegamdfaaFmtRgS
namespace Go.Proofs.YtnhegjjegamdfaaFmt
open Go.RowKit
set_option linter.unusedSimpArgs false
set_option linter.unusedVariables false

def BelowPostR (Q : Prop) (w : World) (e : Ending) (w' : World) : Prop := ∃ B : Bool, e = .returned (.bool B) ∧ (B = true ↔ Q) ∧ Below w.heap.size w w'
def Fits8 (a b c d : ByteArray) : Prop := a.size ≤ 2147483647 ∧ b.size ≤ 2147483647 ∧ c.size ≤ 2147483647 ∧ d.size ≤ 2147483647
set_option maxHeartbeats 1000000 in
theorem fits8_any (f wl : Bool) (a b c d : ByteArray) (w : World) : Calls Tryf.prog 5 #[.agg #[.bool f, .bool wl, .string a, .string b, .string c, .string d]] w (BelowPostR (Fits8 a b c d) w) := by
  by_cases ha : (2147483647 : Int) < a.size
  · go_enter Tryf.func5, Tryf.ntmps5
    go_wp2
    go_ret
    exact ⟨false, rfl, ⟨fun h => (by cases h), fun h => (by have := h.1; omega)⟩, (Below.refl _ _).alloc (Nat.le_refl _) _⟩
  have hai : (a.size : Int) ≤ 2147483647 := by omega
  clear ha
  by_cases hb : (2147483647 : Int) < b.size
  · go_enter Tryf.func5, Tryf.ntmps5
    go_wp2
    go_ret
    exact ⟨false, rfl, ⟨fun h => (by cases h), fun h => (by have := h.2.1; omega)⟩, (Below.refl _ _).alloc (Nat.le_refl _) _⟩
  have hbi : (b.size : Int) ≤ 2147483647 := by omega
  clear hb
  by_cases hc : (2147483647 : Int) < c.size
  · go_enter Tryf.func5, Tryf.ntmps5
    go_wp2
    go_ret
    exact ⟨false, rfl, ⟨fun h => (by cases h), fun h => (by have := h.2.2.1; omega)⟩, (Below.refl _ _).alloc (Nat.le_refl _) _⟩
  have hci : (c.size : Int) ≤ 2147483647 := by omega
  clear hc
  by_cases hd : (2147483647 : Int) < d.size
  · go_enter Tryf.func5, Tryf.ntmps5
    go_wp2
    go_ret
    exact ⟨false, rfl, ⟨fun h => (by cases h), fun h => (by have := h.2.2.2; omega)⟩, (Below.refl _ _).alloc (Nat.le_refl _) _⟩
  have hdi : (d.size : Int) ≤ 2147483647 := by omega
  clear hd
  go_enter Tryf.func5, Tryf.ntmps5
  go_wp2
  go_ret
  exact ⟨true, rfl, ⟨fun _ => ⟨by omega, by omega, by omega, by omega⟩, fun _ => rfl⟩, (Below.refl _ _).alloc (Nat.le_refl _) _⟩

def RsOk (wl : Bool) (a b c d : ByteArray) : Prop := IsSide a ∧ IsSide b ∧ IsSide c ∧ IsSide d ∧ (wl = false → b.size = 0 ∧ d.size = 0) ∧ a.size ≠ 0 ∧ c.size ≠ 0
set_option maxRecDepth 100000 in
set_option maxHeartbeats 4000000 in
theorem IsRefspec_any (f wl : Bool) (a b c d : ByteArray) (w : World) (hf : Fits8 a b c d) : Calls Tryf.prog 6 #[.agg #[.bool f, .bool wl, .string a, .string b, .string c, .string d]] w (BelowPostR (RsOk wl a b c d) w) := by
  obtain ⟨ha, hb, hc, hd⟩ := hf
  go_enter Tryf.func6, Tryf.ntmps6
  go_wp2_with fail
  with_reducible refine (IsSpecSide_any a _ ha).mono ?_
  rintro e w1 ⟨T1, rfl, hT, rfl⟩
  have HT1 := Lib.hid hT
  clear hT
  cases T1 with
  | false =>
    have HN : Hid (¬ RsOk wl a b c d) := Lib.hid (fun h => by have := HT1.out.mpr h.1; cases this)
    go_wp2
    go_ret
    exact ⟨false, rfl, ⟨fun h => (by cases h), fun h => absurd h HN.out⟩, (Below.refl _ _).alloc (Nat.le_refl _) _⟩
  | true =>
  have HS1 : Hid (IsSide a) := Lib.hid (HT1.out.mp rfl)
  clear HT1
  go_wp2_with fail
  with_reducible refine (IsSpecSide_any b _ hb).mono ?_
  rintro e w2 ⟨T2, rfl, hT, rfl⟩
  have HT2 := Lib.hid hT
  clear hT
  cases T2 with
  | false =>
    have HN : Hid (¬ RsOk wl a b c d) := Lib.hid (fun h => by have := HT2.out.mpr h.2.1; cases this)
    go_wp2
    go_ret
    exact ⟨false, rfl, ⟨fun h => (by cases h), fun h => absurd h HN.out⟩, (Below.refl _ _).alloc (Nat.le_refl _) _⟩
  | true =>
  have HS2 : Hid (IsSide b) := Lib.hid (HT2.out.mp rfl)
  clear HT2
  go_wp2_with fail
  with_reducible refine (IsSpecSide_any c _ hc).mono ?_
  rintro e w3 ⟨T3, rfl, hT, rfl⟩
  have HT3 := Lib.hid hT
  clear hT
  cases T3 with
  | false =>
    have HN : Hid (¬ RsOk wl a b c d) := Lib.hid (fun h => by have := HT3.out.mpr h.2.2.1; cases this)
    go_wp2
    go_ret
    exact ⟨false, rfl, ⟨fun h => (by cases h), fun h => absurd h HN.out⟩, (Below.refl _ _).alloc (Nat.le_refl _) _⟩
  | true =>
  have HS3 : Hid (IsSide c) := Lib.hid (HT3.out.mp rfl)
  clear HT3
  go_wp2_with fail
  with_reducible refine (IsSpecSide_any d _ hd).mono ?_
  rintro e w4 ⟨T4, rfl, hT, rfl⟩
  have HT4 := Lib.hid hT
  clear hT
  cases T4 with
  | false =>
    have HN : Hid (¬ RsOk wl a b c d) := Lib.hid (fun h => by have := HT4.out.mpr h.2.2.2.1; cases this)
    go_wp2
    go_ret
    exact ⟨false, rfl, ⟨fun h => (by cases h), fun h => absurd h HN.out⟩, (Below.refl _ _).alloc (Nat.le_refl _) _⟩
  | true =>
  have HS4 : Hid (IsSide d) := Lib.hid (HT4.out.mp rfl)
  clear HT4
  have HSIDES : Hid (IsSide a ∧ IsSide b ∧ IsSide c ∧ IsSide d) := Lib.hid ⟨HS1.out, HS2.out, HS3.out, HS4.out⟩
  clear HS1 HS2 HS3 HS4
  have hbd : (wl = true ∨ (b.size = 0 ∧ d.size = 0)) ∨ (wl = false ∧ (b.size ≠ 0 ∨ (b.size = 0 ∧ d.size ≠ 0))) := by
    cases wl
    · by_cases hb0 : b.size = 0
      · by_cases hd0 : d.size = 0
        · exact .inl (.inr ⟨hb0, hd0⟩)
        · exact .inr ⟨rfl, .inr ⟨hb0, hd0⟩⟩
      · exact .inr ⟨rfl, .inl hb0⟩
    · exact .inl (.inl rfl)
  rcases hbd.symm with ⟨hw, hbad⟩ | hok
  · have HN : Hid (¬ RsOk wl a b c d) := Lib.hid (fun h => by have := h.2.2.2.2.1 hw; omega)
    subst hw
    rcases hbad with hb0 | ⟨hb0, hd0⟩
    · have he := isEmpty_str_not b hb0
      go_wp2
      go_ret
      exact ⟨false, rfl, ⟨fun h => (by cases h), fun h => absurd h HN.out⟩, (Below.refl _ _).alloc (Nat.le_refl _) _⟩
    · have he := isEmpty_str b hb0
      have he2 := isEmpty_str_not d hd0
      go_wp2
      go_ret
      exact ⟨false, rfl, ⟨fun h => (by cases h), fun h => absurd h HN.out⟩, (Below.refl _ _).alloc (Nat.le_refl _) _⟩
  have HOK : Hid (wl = false → b.size = 0 ∧ d.size = 0) := Lib.hid (fun h => hok.elim (fun h1 => by rw [h] at h1; cases h1) id)
  have hac : (a.size = 0) ∨ (a.size ≠ 0 ∧ c.size = 0) ∨ (a.size ≠ 0 ∧ c.size ≠ 0) := by omega
  have hEND : ∀ R : Prop, (wl = true → R) → ((wl = false ∧ b.size = 0 ∧ d.size = 0) → R) → R := fun R h1 h2 => by
    cases wl with
    | true => exact h1 rfl
    | false => exact h2 ⟨rfl, HOK.out rfl⟩
  clear hok
  refine hEND _ (fun hw => ?_) (fun hw => ?_)
  · subst hw
    rcases hac with h0 | ⟨h0, h1⟩ | ⟨h0, h1⟩
    · have ea := isEmpty_str a h0
      have HN : Hid (¬ RsOk true a b c d) := Lib.hid (fun h => h.2.2.2.2.2.1 h0)
      go_wp2
      go_ret
      exact ⟨false, rfl, ⟨fun h => (by cases h), fun h => absurd h HN.out⟩, (Below.refl _ _).alloc (Nat.le_refl _) _⟩
    · have ea := isEmpty_str_not a h0
      have ec := isEmpty_str c h1
      have HN : Hid (¬ RsOk true a b c d) := Lib.hid (fun h => h.2.2.2.2.2.2 h1)
      go_wp2
      go_ret
      exact ⟨false, rfl, ⟨fun h => (by cases h), fun h => absurd h HN.out⟩, (Below.refl _ _).alloc (Nat.le_refl _) _⟩
    · have ea := isEmpty_str_not a h0
      have ec := isEmpty_str_not c h1
      have HY : Hid (RsOk true a b c d) := Lib.hid ⟨HSIDES.out.1, HSIDES.out.2.1, HSIDES.out.2.2.1, HSIDES.out.2.2.2, HOK.out, h0, h1⟩
      go_wp2
      go_ret
      exact ⟨true, rfl, ⟨fun _ => HY.out, fun _ => rfl⟩, (Below.refl _ _).alloc (Nat.le_refl _) _⟩
  · obtain ⟨rfl, hb0, hd0⟩ := hw
    have eb := isEmpty_str b hb0
    have ed := isEmpty_str d hd0
    rcases hac with h0 | ⟨h0, h1⟩ | ⟨h0, h1⟩
    · have ea := isEmpty_str a h0
      have HN : Hid (¬ RsOk false a b c d) := Lib.hid (fun h => h.2.2.2.2.2.1 h0)
      go_wp2
      go_ret
      exact ⟨false, rfl, ⟨fun h => (by cases h), fun h => absurd h HN.out⟩, (Below.refl _ _).alloc (Nat.le_refl _) _⟩
    · have ea := isEmpty_str_not a h0
      have ec := isEmpty_str c h1
      have HN : Hid (¬ RsOk false a b c d) := Lib.hid (fun h => h.2.2.2.2.2.2 h1)
      go_wp2
      go_ret
      exact ⟨false, rfl, ⟨fun h => (by cases h), fun h => absurd h HN.out⟩, (Below.refl _ _).alloc (Nat.le_refl _) _⟩
    · have ea := isEmpty_str_not a h0
      have ec := isEmpty_str_not c h1
      have HY : Hid (RsOk false a b c d) := Lib.hid ⟨HSIDES.out.1, HSIDES.out.2.1, HSIDES.out.2.2.1, HSIDES.out.2.2.2, HOK.out, h0, h1⟩
      go_wp2
      go_ret
      exact ⟨true, rfl, ⟨fun _ => HY.out, fun _ => rfl⟩, (Below.refl _ _).alloc (Nat.le_refl _) _⟩
end Go.Proofs.YtnhegjjegamdfaaFmt
