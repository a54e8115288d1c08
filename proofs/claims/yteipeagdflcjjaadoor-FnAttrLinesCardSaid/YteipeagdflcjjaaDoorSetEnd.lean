/- globSetEnd, isGlobPart: what they let in. -/
import Derived.Test.YteipeagdflcjjaaDoorSet
import Derived.Deep.DeepCutAuto
import Derived.Deep.QuietTactic
import Derived.BigQuiet
namespace Go.Proofs.YteipeagdflcjjaaDoor
open Go.RowKit
set_option linter.unusedSimpArgs false
set_option linter.unusedVariables false

def SetPost (s : ByteArray) (w : World) (e : Ending) (w' : World) : Prop :=
  ∃ n : Nat, e = .returned (.int .i64 (n : Nat)) ∧ (n = 0 ∨ (n < s.size ∧ ∃ neg items, (Tok.set neg items).good ∧ (nb s).take (n + 1) = (Tok.set neg items).text)) ∧ Below w.heap.size w w'

set_option maxRecDepth 100000 in
set_option maxHeartbeats 4000000 in
theorem globSetEnd_any (s : ByteArray) (w : World) (h1 : 1 ≤ s.size) (hs : s.size ≤ 2147483647) (h0 : bx s 0 = 91) :
    Calls Tryd.prog 35 #[.string s] w (SetPost s w) := by
  have H0 := Lib.hid h0; clear h0
  go_enter Tryd.func35, Tryd.ntmps35
  go_upto_region 2 with (fail)
  go_cut [14] (fun v wx => ∃ neg : Bool, v = .bool neg ∧ (neg = true → 1 < s.size ∧ bx s 1 = 94) ∧ wx = w)
  case first =>
    by_cases hl : 1 < s.size
    · have hb := bx_get s 1 hl
      generalize hc : bx s 1 = c at hb
      have HC := Lib.hid hc; clear hc
      have hli : (1 : Int) < s.size := by omega
      by_cases h94 : c = 94
      · have q : ((c : Int) == 94) = true := beq_iff_eq.mpr (by omega)
        go_wp2
        go_meet
        case rel => exact ⟨true, rfl, fun _ => ⟨hl, by rw [HC.out, h94]⟩, rfl⟩
      · have q : ((c : Int) == 94) = false := beq_eq_false_iff_ne.mpr (by omega)
        go_wp2
        go_meet
        case rel => exact ⟨false, rfl, fun h => (by cases h), rfl⟩
    · have hli : ¬ (1 : Int) < s.size := by omega
      go_wp2
      go_meet
      case rel => exact ⟨false, rfl, fun h => (by cases h), rfl⟩
  case rest =>
    obtain ⟨neg, rfl, hneg, rfl⟩ := hcut
    have HN := Lib.hid hneg; clear hneg
    go_upto_if 14 with (fail)
    go_cut [3] (fun v wx => v = .int .i64 ((1 + (negText neg).length : Nat) : Int) ∧ wx = wc)
    case first =>
      cases neg <;> go_wp2 <;> go_meet
      case rel => exact ⟨rfl, rfl⟩
      case rel => exact ⟨rfl, rfl⟩
    case rest =>
      obtain ⟨rfl, rfl⟩ := hcut
      have HF : Hid (1 + (negText neg).length ≤ s.size) := Lib.hid (by
        cases neg with
        | false => simpa [negText] using h1
        | true => have := (HN.out rfl).1; simp [negText]; omega)
      have HF1 : 1 ≤ 1 + (negText neg).length := by omega
      generalize hfr : 1 + (negText neg).length = fr at HF HF1 ⊢
      have HFR := Lib.hid hfr; clear hfr
      have hf := HF.out
      go_wp2
      go_loopw [3] (fun i wr => ∃ k : Nat, i = .int .i64 k ∧ SetIn s fr k ∧ Below wc.heap.size wc wr) (fun i _ => s.size - (intOf i).toNat)
      case atStart => exact ⟨fr, rfl, SetIn.start HF.out, Below.refl _ _⟩
      case round =>
        obtain ⟨k, rfl, hst, hbel⟩ := hrel
        have HB := Lib.hid hbel; clear hbel
        have hle := hst.le
        have htop := hst.top
        have HST := Lib.hid hst; clear hst
        go_upto_region 5 with (fail)
        simp only [List.append_eq, List.cons_append, List.nil_append]
        go_cut [89] (fun v wx => ∃ B : Bool, v = .bool B ∧ (B = true → SetStep s fr k) ∧ Below wc.heap.size wc wx)
        case first =>
          by_cases hlt : k < s.size
          · have hb := bx_get s k hlt
            generalize hcc : bx s k = c at hb
            have HC := Lib.hid hcc; clear hcc
            have hki : (k : Int) < s.size := by omega
            by_cases h97 : (97 : Int) ≤ c
            · by_cases h99 : (c : Int) ≤ 99
              · have HS : Hid (SetStep s fr k) := Lib.hid ⟨hlt, .inl (by rw [HC.out]; unfold letter; omega)⟩
                go_quiet (fail)
                go_wp2
                go_meet
                case rel => exact ⟨true, rfl, fun _ => HS.out, below_drewN HB.out _⟩
              · have q : ((c : Int) == 45) = false := beq_eq_false_iff_ne.mpr (by omega)
                go_quiet (fail)
                go_wp2
                go_meet
                case rel => exact ⟨false, rfl, fun h => (by cases h), below_drewN HB.out _⟩
            · by_cases h45 : c = 45
              · subst h45
                by_cases hfk : (fr : Int) < k
                · obtain ⟨k1, hk1⟩ : ∃ k1 : Nat, k = k1 + 1 := ⟨k - 1, by omega⟩
                  obtain ⟨k2, hk2⟩ : ∃ k2 : Nat, k = k2 + 2 := ⟨k - 2, by omega⟩
                  have e1 : IntKind.i64.wrap ((k : Int) - 1) = (k1 : Int) := by rw [IntWalk.i64_in _ (by omega)]; omega
                  have e2 : IntKind.i64.wrap ((k : Int) - 2) = (k2 : Int) := by rw [IntWalk.i64_in _ (by omega)]; omega
                  obtain ⟨k3, hk3⟩ : ∃ k3 : Nat, k3 = k + 1 := ⟨_, rfl⟩
                  have e3 : IntKind.i64.wrap ((k : Int) + 1) = (k3 : Int) := by rw [IntWalk.i64_in _ (by omega)]; omega
                  obtain ⟨f2, hf2e⟩ : ∃ f2 : Nat, f2 = fr + 2 := ⟨_, rfl⟩
                  have e4 : IntKind.i64.wrap ((fr : Int) + 2) = (f2 : Int) := by rw [IntWalk.i64_in _ (by omega)]; omega
                  have HF2E := Lib.hid hf2e; clear hf2e
                  have hk2s : k2 < s.size := by omega
                  have hk1s : k1 < s.size := by omega
                  have hb0 := bx_get s k2 hk2s
                  have hb1 := bx_get s k1 hk1s
                  generalize hc0 : bx s k2 = c0 at hb0
                  generalize hc1 : bx s k1 = c1 at hb1
                  have HC0 : Hid (bx s (k - 2) = c0) := Lib.hid (by rw [show k - 2 = k2 by omega]; exact hc0)
                  have HC1 : Hid (bx s (k - 1) = c1) := Lib.hid (by rw [show k - 1 = k1 by omega]; exact hc1)
                  clear hc0 hc1
                  by_cases hnx : k3 < s.size
                  · have hnxi : (k3 : Int) < s.size := by omega
                    have hb3 := bx_get s k3 hnx
                    generalize hc3 : bx s k3 = c3 at hb3
                    have HC3 : Hid (bx s (k + 1) = c3) := Lib.hid (by rw [← hk3]; exact hc3)
                    clear hc3 hk1 hk2 hk3
                    by_cases hf2 : k < f2
                    · have hf2i : (k : Int) < (f2 : Int) := by omega
                      by_cases h93 : c3 = 93
                      · have q93 : ((c3 : Int) != 93) = false := by simp [h93]
                        go_quiet (fail)
                        try any_goals (exfalso; omega)
                        go_wp2
                        try any_goals (exfalso; omega)
                        go_meet
                        case rel => exact ⟨false, rfl, fun h => (by cases h), below_drewN HB.out _⟩
                      · have q93 : ((c3 : Int) != 93) = true := by simp; omega
                        by_cases h1 : c1 = 45
                        · have q1 : ((c1 : Int) != 45) = false := by simp [h1]
                          go_quiet (fail)
                          try any_goals (exfalso; omega)
                          go_wp2
                          try any_goals (exfalso; omega)
                          go_meet
                          case rel => exact ⟨false, rfl, fun h => (by cases h), below_drewN HB.out _⟩
                        · have q1 : ((c1 : Int) != 45) = true := by simp; omega
                          have HS : Hid (SetStep s fr k) := Lib.hid ⟨hlt, .inr ⟨HC.out, by omega, .inl (by have := HF2E.out; omega), by rw [HC3.out]; exact h93, by rw [HC1.out]; exact h1⟩⟩
                          by_cases hle2 : c1 ≤ c3
                          · go_quiet (fail)
                            try any_goals (exfalso; omega)
                            go_wp2
                            try any_goals (exfalso; omega)
                            go_meet
                            case rel => exact ⟨true, rfl, fun _ => HS.out, below_drewN HB.out _⟩
                          · have hle3 : (c3 : Int) < c1 := by omega
                            have hle4 : ¬ c1 ≤ c3 := hle2
                            go_quiet (fail)
                            try any_goals (exfalso; omega)
                            go_wp2
                            try any_goals (exfalso; omega)
                            go_meet
                            case rel => exact ⟨false, rfl, fun h => (by cases h), below_drewN HB.out _⟩
                    · have hf2' : (f2 : Int) ≤ (k : Int) := by omega
                      have hf2n : ¬ k < f2 := by omega
                      by_cases h0 : c0 = 45
                      · have q0 : ((c0 : Int) != 45) = false := by simp [h0]
                        go_quiet (fail)
                        try any_goals (exfalso; omega)
                        go_wp2
                        try any_goals (exfalso; omega)
                        go_meet
                        case rel => exact ⟨false, rfl, fun h => (by cases h), below_drewN HB.out _⟩
                      · have q0 : ((c0 : Int) != 45) = true := by simp; omega
                        by_cases h93 : c3 = 93
                        · have q93 : ((c3 : Int) != 93) = false := by simp [h93]
                          go_quiet (fail)
                          try any_goals (exfalso; omega)
                          go_wp2
                          try any_goals (exfalso; omega)
                          go_meet
                          case rel => exact ⟨false, rfl, fun h => (by cases h), below_drewN HB.out _⟩
                        · have q93 : ((c3 : Int) != 93) = true := by simp; omega
                          by_cases h1 : c1 = 45
                          · have q1 : ((c1 : Int) != 45) = false := by simp [h1]
                            go_quiet (fail)
                            try any_goals (exfalso; omega)
                            go_wp2
                            try any_goals (exfalso; omega)
                            go_meet
                            case rel => exact ⟨false, rfl, fun h => (by cases h), below_drewN HB.out _⟩
                          · have q1 : ((c1 : Int) != 45) = true := by simp; omega
                            have HS : Hid (SetStep s fr k) := Lib.hid ⟨hlt, .inr ⟨HC.out, by omega, .inr (by rw [HC0.out]; exact h0), by rw [HC3.out]; exact h93, by rw [HC1.out]; exact h1⟩⟩
                            by_cases hle2 : c1 ≤ c3
                            · go_quiet (fail)
                              try any_goals (exfalso; omega)
                              go_wp2
                              try any_goals (exfalso; omega)
                              go_meet
                              case rel => exact ⟨true, rfl, fun _ => HS.out, below_drewN HB.out _⟩
                            · have hle3 : (c3 : Int) < c1 := by omega
                              have hle4 : ¬ c1 ≤ c3 := hle2
                              go_quiet (fail)
                              try any_goals (exfalso; omega)
                              go_wp2
                              try any_goals (exfalso; omega)
                              go_meet
                              case rel => exact ⟨false, rfl, fun h => (by cases h), below_drewN HB.out _⟩
                  · have hnx' : (s.size : Int) ≤ (k3 : Int) := by omega
                    have hnx2 : ¬ k3 < s.size := hnx
                    clear hk1 hk2 hk3
                    by_cases hf2 : k < f2
                    · have hf2i : (k : Int) < (f2 : Int) := by omega
                      go_quiet (fail)
                      try any_goals (exfalso; omega)
                      go_wp2
                      try any_goals (exfalso; omega)
                      go_meet
                      case rel => exact ⟨false, rfl, fun h => (by cases h), below_drewN HB.out _⟩
                    · have hf2' : (f2 : Int) ≤ (k : Int) := by omega
                      have hf2n : ¬ k < f2 := by omega
                      by_cases h0 : c0 = 45
                      · have q0 : ((c0 : Int) != 45) = false := by simp [h0]
                        go_quiet (fail)
                        try any_goals (exfalso; omega)
                        go_wp2
                        try any_goals (exfalso; omega)
                        go_meet
                        case rel => exact ⟨false, rfl, fun h => (by cases h), below_drewN HB.out _⟩
                      · have q0 : ((c0 : Int) != 45) = true := by simp; omega
                        go_quiet (fail)
                        try any_goals (exfalso; omega)
                        go_wp2
                        try any_goals (exfalso; omega)
                        go_meet
                        case rel => exact ⟨false, rfl, fun h => (by cases h), below_drewN HB.out _⟩
                · go_quiet (fail)
                  go_wp2
                  go_meet
                  case rel => exact ⟨false, rfl, fun h => (by cases h), below_drewN HB.out _⟩
              · have q : ((c : Int) == 45) = false := beq_eq_false_iff_ne.mpr (by omega)
                go_quiet (fail)
                go_wp2
                go_meet
                case rel => exact ⟨false, rfl, fun h => (by cases h), below_drewN HB.out _⟩
          · have hki : ¬ (k : Int) < s.size := by omega
            go_quiet (fail)
            go_wp2
            go_meet
            case rel => exact ⟨false, rfl, fun h => (by cases h), below_drewN HB.out _⟩
        case rest =>
          obtain ⟨B, rfl, hB, hbel⟩ := hcut
          clear HB
          have HB := Lib.hid hbel; clear hbel
          cases B with
          | true =>
            have HN2 := Lib.hid (HST.out.step (hB rfl))
            have hlt := (hB rfl).1
            clear hB
            go_wp2
            go_roundw
            case rel => exact ⟨k + 1, by go_num, HN2.out, HB.out⟩
            case measure => simp [intOf] <;> omega
          | false =>
            clear hB
            by_cases hkf : k = fr
            · have q : ((k : Int) == fr) = true := beq_iff_eq.mpr (by omega)
              go_wp2
              go_ret
              exact ⟨0, rfl, .inl rfl, HB.out⟩
            · have q : ((k : Int) == fr) = false := beq_eq_false_iff_ne.mpr (by omega)
              by_cases hlt : k < s.size
              · have hb := bx_get s k hlt
                generalize hcc : bx s k = c at hb
                have HC := Lib.hid hcc; clear hcc
                have hki : (k : Int) < s.size := by omega
                have hki2 : ¬ (s.size : Int) ≤ k := by omega
                by_cases h93 : c = 93
                · have q2 : ((c : Int) != 93) = false := by simp [h93]
                  have HFIN := Lib.hid ((HFR.out.symm ▸ HST.out : SetIn s (1 + (negText neg).length) k).fin hlt H0.out (fun h => (HN.out h).2) (by rw [HFR.out]; omega) (HC.out.trans h93))
                  clear h93
                  go_wp2
                  go_ret
                  exact ⟨k, rfl, .inr ⟨hlt, neg, HFIN.out⟩, HB.out⟩
                · have q2 : ((c : Int) != 93) = true := by simp; omega
                  go_wp2
                  go_ret
                  exact ⟨0, rfl, .inl rfl, HB.out⟩
              · have hki : (s.size : Int) ≤ k := by omega
                go_wp2
                go_ret
                exact ⟨0, rfl, .inl rfl, HB.out⟩
end Go.Proofs.YteipeagdflcjjaaDoor
