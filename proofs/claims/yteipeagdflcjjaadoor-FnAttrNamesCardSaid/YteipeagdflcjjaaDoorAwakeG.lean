/- globAwake. -/
import Derived.Test.YteipeagdflcjjaaDoorOne
namespace Go.Proofs.YteipeagdflcjjaaDoor
open Go.RowKit
set_option linter.unusedSimpArgs false
set_option linter.unusedVariables false

theorem toks_lit (x : Nat) (hx : x = 97) (T : List Tok) (h : texts T = [x]) (hg : ∀ t ∈ T, Tok.good t) : T = [.lit x] := by
  cases T with
  | nil => cases h
  | cons t r =>
    rw [texts_cons] at h
    have hr : ∀ c : Nat, [c] ++ texts r = [x] → c = x ∧ r = [] := by
      intro c hc
      obtain ⟨h1, h2⟩ := List.cons.inj hc
      exact ⟨h1, (texts_nil_iff r).mp h2⟩
    cases t with
    | star => have := (hr 42 h).1; omega
    | any => have := (hr 63 h).1; omega
    | lit c => obtain ⟨rfl, rfl⟩ := hr c h; rfl
    | esc c => have h2 : 92 :: (c :: texts r) = [x] := h; have := (List.cons.inj h2).1; omega
    | set neg items => have h2 : 91 :: _ = [x] := h; have := (List.cons.inj h2).1; omega
theorem good_a : GoodPart ⟨#[97]⟩ := ⟨[.lit 97], rfl, fun t ht => by rw [List.mem_singleton] at ht; subst ht; exact .inl ⟨by decide, by decide⟩, by decide, by decide⟩
theorem toks_a : toksOf ⟨#[97]⟩ = [.lit 97] := by
  obtain ⟨h1, h2, _⟩ := toks_spec good_a
  exact toks_lit 97 rfl _ h1.symm h2
theorem Mt_aa : Mt ⟨#[97]⟩ ⟨#[97]⟩ = true := by unfold Mt; rw [toks_a]; rfl
theorem Mt_ab : Mt ⟨#[97]⟩ ⟨#[98]⟩ = false := by unfold Mt; rw [toks_a]; rfl
theorem awakePat : PatText ⟨#[97]⟩ false [⟨#[97]⟩] :=
  pat_text (f := fun _ => ⟨#[97]⟩) (n := 1) (ahead := false) (behind := false) (by decide) (by decide) (fun i _ => .inl good_a) rfl (by decide)
theorem awake_yes : matchL [⟨#[97]⟩] false false (pathL (fun _ => ⟨#[97]⟩) 1) = true := by
  show simple Mt ⟨#[97]⟩ false false [⟨#[97]⟩] = true
  unfold simple
  rw [if_pos Mt_aa]; rfl
theorem awake_no : matchL [⟨#[97]⟩] false false (pathL (fun _ => ⟨#[98]⟩) 1) = false := by
  show simple Mt ⟨#[97]⟩ false false [⟨#[98]⟩] = false
  unfold simple
  rw [if_neg (by rw [Mt_ab]; decide)]; rfl
theorem name_a : NameOk ⟨#[97]⟩ := ⟨⟨fun c hc => by simp [nb] at hc; omega, by decide⟩, by decide, by decide⟩
theorem name_b : NameOk ⟨#[98]⟩ := ⟨⟨fun c hc => by simp [nb] at hc; omega, by decide⟩, by decide, by decide⟩
theorem strs_one (w : World) (s : ByteArray) : Strs (w.alloc (.cells #[.string s] 9)) (some ⟨w.heap.size, 0, none⟩) 1 (fun _ => s) := by
  intro i hi
  obtain rfl : i = 0 := by omega
  exact ⟨w.heap.size, 0, rfl, by simp, World.cell?_alloc_mark w #[Value.string s] 9 (0, 0) 0⟩

def TrueBelow (w : World) (e : Ending) (w' : World) : Prop := e = .returned (.bool true) ∧ Below w.heap.size w w'
set_option maxRecDepth 100000 in
set_option maxHeartbeats 2000000 in
theorem awake_any (w : World) : Calls Tryd.prog 23 #[] w (TrueBelow w) := by
  go_enter Tryd.func23, Tryd.ntmps23
  go_wp2_with fail
  with_reducible refine (one_any ⟨#[97]⟩ false _ false _ 0 1 1 (fun _ => ⟨#[97]⟩) _ awakePat (by decide) (by decide) (strs_one _ _) (fun _ _ => name_a)).mono ?_
  rintro e w1 ⟨rfl, hb⟩
  rw [awake_yes]
  have HB : Hid (Below w.heap.size w w1) := Lib.hid (((Below.refl w.heap.size w).alloc (Nat.le_refl _) _).trans (hb.mono (by simp)))
  clear hb
  have h1 : one true = 1 := rfl
  rw [h1]
  go_wp2_with fail
  with_reducible refine (one_any ⟨#[97]⟩ false _ false _ 0 1 1 (fun _ => ⟨#[98]⟩) _ awakePat (by decide) (by decide) (strs_one _ _) (fun _ _ => name_b)).mono ?_
  rintro e w2 ⟨rfl, hb⟩
  rw [awake_no]
  have HB2 : Hid (Below w.heap.size w w2) := Lib.hid ((HB.out.alloc HB.out.size _).trans (hb.mono (by have := HB.out.size; simp; omega)))
  clear hb
  have h2 : one false = 0 := rfl
  rw [h2]
  go_wp2
  go_ret
  exact ⟨rfl, HB2.out⟩
end Go.Proofs.YteipeagdflcjjaaDoor
