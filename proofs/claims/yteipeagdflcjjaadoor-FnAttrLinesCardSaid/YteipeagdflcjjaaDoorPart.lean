/- isGlobPart, isGlob, isGlobPath, GlobText. -/
import Derived.Test.YteipeagdflcjjaaDoorSetEnd
import Derived.Test.YteipeagdflcjjaaDoorChunk
namespace Go.Proofs.YteipeagdflcjjaaDoor
open Go.RowKit
set_option linter.unusedSimpArgs false
set_option linter.unusedVariables false

def PartPost (s : ByteArray) (w : World) (e : Ending) (w' : World) : Prop :=
  ∃ B : Bool, e = .returned (.bool B) ∧ (B = true → nb s = [42, 42] ∨ GoodPart s) ∧ Below w.heap.size w w'

set_option maxRecDepth 100000 in
set_option maxHeartbeats 4000000 in
theorem isGlobPart_any (s : ByteArray) (w : World) (hs : s.size ≤ 2147483647) :
    Calls Tryd.prog 16 #[.string s] w (PartPost s w) := by
  have hq := beq_str s [42, 42]
  go_enter Tryd.func16, Tryd.ntmps16
  cases hB : (nb s == ([42, 42] : List UInt8).map UInt8.toNat) with
  | true =>
    rw [hB] at hq
    have HQ := Lib.hid (beq_iff_eq.mp hB)
    clear hB
    go_wp2
    go_ret
    exact ⟨true, rfl, fun _ => .inl HQ.out, Below.refl _ _⟩
  | false =>
    rw [hB] at hq
    clear hB
    go_wp2
    clear hq
    go_loopw [3] (fun i wr => ∃ k : Nat, i = .int .i64 k ∧ PartIn s k ∧ Below w.heap.size w wr) (fun i _ => s.size - (intOf i).toNat)
    case atStart => exact ⟨0, rfl, PartIn.start s, Below.refl _ _⟩
    case round =>
      obtain ⟨k, rfl, hp, hbel⟩ := hrel
      have hk := hp.1
      have HP := Lib.hid hp; clear hp
      have HB := Lib.hid hbel; clear hbel
      by_cases hlt : k < s.size
      · have hb := bx_get s k hlt
        generalize hcc : bx s k = c at hb
        have HC := Lib.hid hcc; clear hcc
        by_cases h91 : c = 91
        · have HC2 : Hid (bx s k = 91) := Lib.hid (HC.out.trans h91)
          subst h91
          have hz : (s.extract k s.size).size = s.size - k := size_tail s k
          have HX : Hid (bx (s.extract k s.size) 0 = 91) := Lib.hid (by rw [bx_extract s k s.size 0 (by omega)]; exact HC2.out)
          have HZ := Lib.hid hz; clear hz
          go_wp2_with fail
          with_reducible refine (globSetEnd_any (s.extract k s.size) _ (by rw [HZ.out]; omega) (by rw [HZ.out]; omega) HX.out).mono ?_
          rintro e w' ⟨n, rfl, hn, hb'⟩
          have HB2 := Lib.hid (HB.out.trans (hb'.mono HB.out.size)); clear hb'
          by_cases hn0 : n = 0
          · subst hn0
            go_wp2
            go_ret
            exact ⟨false, rfl, fun h => (by cases h), HB2.out⟩
          · have q : ((n : Int) == 0) = false := beq_eq_false_iff_ne.mpr (by omega)
            have hn2 := hn.resolve_left hn0
            have hnl := hn2.1
            rw [HZ.out] at hnl
            obtain ⟨neg, items, hg, ht⟩ := hn2.2
            have HN := Lib.hid (HP.out.set hn2.1 neg items hg ht)
            clear hn hn2 hg ht
            go_wp2
            go_roundw
            case rel => exact ⟨k + n + 1, by go_num, HN.out, HB2.out⟩
            case measure => simp [intOf] <;> omega
        · have q91 : ((c : Int) == 91) = false := beq_eq_false_iff_ne.mpr (by omega)
          by_cases h92 : c = 92
          · have HC2 : Hid (bx s k = 92) := Lib.hid (HC.out.trans h92)
            subst h92
            by_cases hl2 : k + 1 < s.size
            · have hb2 := bx_get s (k + 1) hl2
              generalize hdd : bx s (k + 1) = d at hb2
              have HD := Lib.hid hdd; clear hdd
              have hl2i : (k : Int) + 1 < s.size := by omega
              have hok : ∀ (h : (97 ≤ d ∧ d ≤ 99) ∨ d = 42 ∨ d = 63 ∨ d = 91), PartIn s (k + 2) := fun h => HP.out.esc hl2 HC2.out (by rw [HD.out]; exact h)
              have HOK := Lib.hid hok; clear hok
              by_cases h97 : (d : Int) < 97
              · by_cases h42 : d = 42
                · have q1 : ((d : Int) != 42) = false := by simp [h42]
                  have HN := Lib.hid (HOK.out (by omega))
                  have h97n : d < 97 := by omega
                  go_wp2
                  try any_goals (exfalso; omega)
                  go_roundw
                  case rel => exact ⟨k + 2, by go_num, HN.out, HB.out⟩
                  case measure => simp [intOf] <;> omega
                · have q1 : ((d : Int) != 42) = true := by simp; omega
                  by_cases h63 : d = 63
                  · have q2 : ((d : Int) != 63) = false := by simp [h63]
                    have HN := Lib.hid (HOK.out (by omega))
                    go_wp2
                    try any_goals (exfalso; omega)
                    go_roundw
                    case rel => exact ⟨k + 2, by go_num, HN.out, HB.out⟩
                    case measure => simp [intOf] <;> omega
                  · have q2 : ((d : Int) != 63) = true := by simp; omega
                    by_cases h91d : d = 91
                    · have q3 : ((d : Int) != 91) = false := by simp [h91d]
                      have HN := Lib.hid (HOK.out (by omega))
                      go_wp2
                      try any_goals (exfalso; omega)
                      go_roundw
                      case rel => exact ⟨k + 2, by go_num, HN.out, HB.out⟩
                      case measure => simp [intOf] <;> omega
                    · have q3 : ((d : Int) != 91) = true := by simp; omega
                      go_wp2
                      try any_goals (exfalso; omega)
                      go_ret
                      exact ⟨false, rfl, fun h => (by cases h), HB.out⟩
              · by_cases h99 : (d : Int) ≤ 99
                · have h97' : (97 : Int) ≤ d := by omega
                  have HN := Lib.hid (HOK.out (by omega))
                  go_wp2
                  try any_goals (exfalso; omega)
                  go_roundw
                  case rel => exact ⟨k + 2, by go_num, HN.out, HB.out⟩
                  case measure => simp [intOf] <;> omega
                · have h97' : (97 : Int) ≤ d := by omega
                  have h99' : (99 : Int) < d := by omega
                  have q1 : ((d : Int) != 42) = true := by simp; omega
                  have q2 : ((d : Int) != 63) = true := by simp; omega
                  have q3 : ((d : Int) != 91) = true := by simp; omega
                  go_wp2
                  try any_goals (exfalso; omega)
                  go_ret
                  exact ⟨false, rfl, fun h => (by cases h), HB.out⟩
            · have hl2i : (s.size : Int) ≤ (k : Int) + 1 := by omega
              go_wp2
              go_ret
              exact ⟨false, rfl, fun h => (by cases h), HB.out⟩
          · have q92 : ((c : Int) == 92) = false := beq_eq_false_iff_ne.mpr (by omega)
            by_cases h42 : c = 42
            · have HN := Lib.hid (HP.out.star hlt (HC.out.trans h42))
              have q42 : ((c : Int) == 42) = true := beq_iff_eq.mpr (by omega)
              clear h91 h92 h42
              by_cases hk0 : k = 0
              · subst hk0
                go_wp2
                go_roundw
                case rel => exact ⟨1, by first | rfl | go_num, HN.out, HB.out⟩
                case measure => simp [intOf] <;> omega
              · obtain ⟨j, rfl⟩ : ∃ j, k = j + 1 := ⟨k - 1, by omega⟩
                have hb2 := bx_get s j (by omega)
                generalize bx s j = d at hb2
                have hpos : (0 : Int) < (j : Int) + 1 := by omega
                by_cases hd : d = 42
                · have q1 : ((d : Int) == 42) = true := beq_iff_eq.mpr (by omega)
                  go_wp2
                  try any_goals (exfalso; omega)
                  go_ret
                  exact ⟨false, rfl, fun h => (by cases h), HB.out⟩
                · have q1 : ((d : Int) == 42) = false := beq_eq_false_iff_ne.mpr (by omega)
                  go_wp2
                  try any_goals (exfalso; omega)
                  go_roundw
                  case rel => exact ⟨j + 2, by go_num, HN.out, HB.out⟩
                  case measure => simp [intOf] <;> omega
            · have q42 : ((c : Int) == 42) = false := beq_eq_false_iff_ne.mpr (by omega)
              by_cases h63 : c = 63
              · have HN := Lib.hid (HP.out.any hlt (HC.out.trans h63))
                have c1 : (c : Int) < 97 := by omega
                have q1 : ((c : Int) != 46) = true := by simp; omega
                have q2 : ((c : Int) != 63) = false := by simp [h63]
                clear h91 h92 h42 h63
                go_wp2
                try any_goals (exfalso; omega)
                go_roundw
                case rel => exact ⟨k + 1, by go_num, HN.out, HB.out⟩
                case measure => simp [intOf] <;> omega
              · have q63 : ((c : Int) != 63) = true := by simp; omega
                by_cases h46 : c = 46
                · have HN := Lib.hid (HP.out.lit hlt (.inr (HC.out.trans h46)))
                  have c1 : (c : Int) < 97 := by omega
                  have q1 : ((c : Int) != 46) = false := by simp [h46]
                  clear h91 h92 h42 h63 h46
                  go_wp2
                  try any_goals (exfalso; omega)
                  go_roundw
                  case rel => exact ⟨k + 1, by go_num, HN.out, HB.out⟩
                  case measure => simp [intOf] <;> omega
                · have q46 : ((c : Int) != 46) = true := by simp; omega
                  by_cases h97 : (c : Int) < 97
                  · go_wp2
                    try any_goals (exfalso; omega)
                    go_ret
                    exact ⟨false, rfl, fun h => (by cases h), HB.out⟩
                  · have h97' : (97 : Int) ≤ c := by omega
                    by_cases h99 : (c : Int) ≤ 99
                    · have HN := Lib.hid (HP.out.lit hlt (.inl (by rw [HC.out]; unfold letter; omega)))
                      go_wp2
                      try any_goals (exfalso; omega)
                      go_roundw
                      case rel => exact ⟨k + 1, by go_num, HN.out, HB.out⟩
                      case measure => simp [intOf] <;> omega
                    · have h99' : (99 : Int) < c := by omega
                      go_wp2
                      try any_goals (exfalso; omega)
                      go_ret
                      exact ⟨false, rfl, fun h => (by cases h), HB.out⟩
      · obtain rfl : k = s.size := by omega
        by_cases h1 : (1 : Int) ≤ s.size
        · by_cases h10 : (s.size : Int) ≤ 10
          · have HF := Lib.hid (HP.out.fin (by omega) (by omega))
            go_wp2
            try any_goals (exfalso; omega)
            go_ret
            exact ⟨true, rfl, fun _ => .inr HF.out, HB.out⟩
          · have h10' : (10 : Int) < s.size := by omega
            go_wp2
            try any_goals (exfalso; omega)
            go_ret
            exact ⟨false, rfl, fun h => (by cases h), HB.out⟩
        · have h1' : (s.size : Int) < 1 := by omega
          go_wp2
          try any_goals (exfalso; omega)
          go_ret
          exact ⟨false, rfl, fun h => (by cases h), HB.out⟩
end Go.Proofs.YteipeagdflcjjaaDoor
