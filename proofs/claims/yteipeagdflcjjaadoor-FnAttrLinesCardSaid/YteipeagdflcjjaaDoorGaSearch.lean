/- zzIndex, zzContains, zzSplit of gitattributes: the same walk as gitignore's. -/
import Derived.Test.YteipeagdflcjjaaDoorSearch
import Derived.Deep.DeepCutAuto
import Derived.Deep.QuietTactic
import Derived.BigQuiet
namespace Go.Proofs.YteipeagdflcjjaaDoor.Ga
open Go.RowKit
set_option linter.unusedSimpArgs false
set_option linter.unusedVariables false
set_option maxHeartbeats 1000000 in
theorem zzIndex_any (s sub : ByteArray) (w : World) (hs : s.size ≤ 10000) (hb : sub.size ≤ 10000) :
    Calls Tryd.prog 138 #[.string s, .string sub] w (IndexPost s sub w) := by
  go_enter Tryd.func138, Tryd.ntmps138
  go_wp2
  go_loop [5] (fun i => ∃ k : Nat, i = .int .i64 k ∧ k ≤ s.size + 1 ∧ ∀ j, j < k → subAt s sub j = false) (fun i => s.size + 1 - (intOf i).toNat)
  case atStart => exact ⟨0, rfl, by omega, fun j h => by omega⟩
  case round =>
    obtain ⟨k, rfl, hk, hall⟩ := hrel
    have HA := Lib.hid hall; clear hall
    by_cases hlt : k + sub.size ≤ s.size
    · have hlti : (k : Int) + sub.size ≤ s.size := by omega
      have hq := beq_str2 (s.extract k (k + sub.size)) sub
      have hB : ∃ B, subAt s sub k = B ∧ (nb (s.extract k (k + sub.size)) == nb sub) = B := ⟨_, rfl, rfl⟩
      obtain ⟨B, hB1, hB2⟩ := hB
      rw [hB2] at hq
      have HB1 := Lib.hid hB1; clear hB1 hB2
      cases B with
      | true =>
        have HY := Lib.hid ((hasSub_iff s sub).mpr ⟨k, hlt, HB1.out⟩)
        go_wp2
        go_ret
        exact ⟨k, rfl, by rw [HY.out]; exact decide_eq_true (by omega), rfl⟩
      | false =>
        go_wp2
        go_round
        case rel =>
          refine ⟨k + 1, by go_num, by omega, fun j hj => ?_⟩
          by_cases e : j = k
          · subst e; exact HB1.out
          · exact HA.out j (by omega)
        case measure => simp [intOf] <;> omega
    · have hlti : (s.size : Int) < (k : Int) + sub.size := by omega
      have HN := Lib.hid (hasSub_no HA.out hlt)
      go_wp2
      go_ret
      exact ⟨-1, rfl, by rw [HN.out]; rfl, rfl⟩
set_option maxHeartbeats 400000 in
theorem zzContains_any (s sub : ByteArray) (w : World) (hs : s.size ≤ 10000) (hb : sub.size ≤ 10000) :
    Calls Tryd.prog 136 #[.string s, .string sub] w fun e w' => e = .returned (.bool (hasSub s sub)) ∧ w = w' := by
  go_enter Tryd.func136, Tryd.ntmps136
  go_wp2_with fail
  with_reducible refine (zzIndex_any s sub w hs hb).mono ?_
  rintro e w' ⟨r, rfl, hr, rfl⟩
  have HR := Lib.hid hr; clear hr
  go_wp2
  go_ret
  exact ⟨ret_bool HR.out, rfl⟩

-- A text that does not end with a blank.
set_option maxRecDepth 100000 in
set_option maxHeartbeats 2000000 in
theorem zzSplit_any (s : ByteArray) (w : World) (hs : s.size ≤ 10000) :
    Calls Tryd.prog 80 #[.string s, .string ⟨#[47]⟩] w (SplitPost s w) := by
  obtain ⟨i0, hi, hz0, hz1, hz2⟩ := info_parts strInfo
  go_enter Tryd.func80, Tryd.ntmps80
  go_wp2
  go_loopw [5, 6, 7] (fun l a i wr => ∃ x k L, a = .int .i64 (x : Nat) ∧ i = .int .i64 (k : Nat) ∧ SplitIn s x k L ∧ Own wr w.heap.size l L ∧ Below w.heap.size w wr) (fun _ _ i _ => s.size - (intOf i).toNat)
  case atStart => exact ⟨0, 0, [], rfl, rfl, SplitIn.start s, Own.nil _ _, Below.refl _ _⟩
  case round =>
    obtain ⟨x, k, L, rfl, rfl, hcut0, hown, hbel⟩ := hrel
    have HC := Lib.hid hcut0
    have HOWN := Lib.hid hown
    have HB := Lib.hid hbel
    have hx := hcut0.le
    have htop := hcut0.top
    have hlen := hcut0.len
    clear hcut0 hown hbel
    by_cases hk : k < s.size
    · have hki : (k : Int) + 1 ≤ s.size := by omega
      have hq := beq_str (s.extract k (k + 1)) [47]
      have hB : (nb (s.extract k (k + 1)) == ([47] : List UInt8).map UInt8.toNat) = decide (bx s k = 47) := by
        rw [nb_extract, show k + 1 - k = 0 + 1 by omega, drop_bx' s k hk]
        rw [Bool.eq_iff_iff, beq_iff_eq, decide_eq_true_iff]
        constructor
        · intro h; exact (List.cons.inj h).1
        · intro h; rw [h]; rfl
      rw [hB] at hq
      clear hB
      by_cases h47 : bx s k = 47
      · rw [decide_eq_true h47] at hq
        have HN := Lib.hid (HC.out.sep hk h47)
        clear h47
        go_upto_region 6 with (fail)
        go_wp2_with (at_builtin; refine wpList_append_lies _ rfl (.tmp 24) (.tmp 29) 23 rfl w.heap.size 9 i0 (.string ⟨#[]⟩) 1 16 strsKind hi hz0 hz1 hz2 rfl (by decide) _ _ _ rfl (World.ownsRow.alloc HOWN.out _) ⟨wr.heap.size, 0, none⟩ 1 1 [.string (s.extract x k)] rfl rfl (news_str _ _) (one_str _) (by decide) ?c3 ?c4 ?c5 _ rfl ?_)
        case c3 => unfold maxLen; omega
        case c4 => omega
        case c5 => have := HB.out.size; first | omega | (rw [heap_new_size]; omega)
        intro gg cap2 w4 hown4 hgrow _ _
        have R := Lib.hid (Own.more hown4)
        have RB := Lib.hid ((HB.out.alloc HB.out.size _).grown hgrow (by have := HB.out.size; rw [heap_new_size]; omega) (fun q e => (HOWN.out.lt q e).1))
        clear hown4 hgrow
        go_wp2
        go_roundw
        case rel => exact ⟨k + 1, k + 1, _, by go_num, by go_num, HN.out, R.out, RB.out⟩
        case measure => simp [intOf]; omega
      · rw [decide_eq_false h47] at hq
        have HN := Lib.hid (HC.out.go hk h47)
        clear h47
        go_wp2
        go_roundw
        case rel => exact ⟨x, k + 1, L, by go_num, by go_num, HN.out, HOWN.out, HB.out⟩
        case measure => simp [intOf]; omega
    · have hki : (s.size : Int) < (k : Int) + 1 := by omega
      have HF := Lib.hid (HC.out.fin hk)
      have hxs : x ≤ s.size := by omega
      go_upto_region 10 with (fail)
      go_wp2_with (at_builtin; refine wpList_append_lies _ rfl (.tmp 38) (.tmp 42) 23 rfl w.heap.size 9 i0 (.string ⟨#[]⟩) 1 16 strsKind hi hz0 hz1 hz2 rfl (by decide) _ _ _ rfl (World.ownsRow.alloc HOWN.out _) ⟨wr.heap.size, 0, none⟩ 1 1 [.string (s.extract x s.size)] rfl rfl (news_str _ _) (one_str _) (by decide) ?d3 ?d4 ?d5 _ rfl ?_)
      case d3 => unfold maxLen; omega
      case d4 => omega
      case d5 => have := HB.out.size; first | omega | (rw [heap_new_size]; omega)
      intro gg cap2 w4 hown4 hgrow _ _
      have R := Lib.hid (Own.more hown4)
      have RB := Lib.hid ((HB.out.alloc HB.out.size _).grown hgrow (by have := HB.out.size; rw [heap_new_size]; omega) (fun q e => (HOWN.out.lt q e).1))
      clear hown4 hgrow
      go_wp2
      go_ret
      exact ⟨_, _, rfl, R.out, HF.out, RB.out⟩
end Go.Proofs.YteipeagdflcjjaaDoor.Ga
