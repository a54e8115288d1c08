/- The plain loops of gitignore's search: zzIndex, zzContains, zzTrimRight (a blank), zzSplit (a stroke), HasSuffix. -/
import Derived.Test.YteipeagdflcjjaaDoorIgn
import Derived.Test.YteipeagdflcjjaaDoorOwn
import Derived.Deep.DeepCutAuto
import Derived.Deep.QuietTactic
import Derived.BigQuiet
namespace Go.Proofs.YteipeagdflcjjaaDoor
open Go.RowKit
set_option linter.unusedSimpArgs false
set_option linter.unusedVariables false

theorem nb_tail' (s : ByteArray) : nb (s.extract 0 s.size) = nb s := by
  rw [nb_extract, List.drop_zero, List.take_of_length_le (by rw [nb_length]; omega)]
theorem drop_bx' (s : ByteArray) (k : Nat) (h : k < s.size) : ((nb s).drop k).take (0 + 1) = [bx s k] := by
  rw [List.drop_eq_getElem_cons (by rw [nb_length]; exact h), bx_getElem]; rfl
def subAt (s sub : ByteArray) (i : Nat) : Bool := nb (s.extract i (i + sub.size)) == nb sub
def hasSub (s sub : ByteArray) : Bool := (List.range (s.size + 1)).any fun i => decide (i + sub.size ≤ s.size) && subAt s sub i
theorem hasSub_iff (s sub : ByteArray) : hasSub s sub = true ↔ ∃ i, i + sub.size ≤ s.size ∧ subAt s sub i = true := by
  unfold hasSub
  rw [List.any_eq_true]
  constructor
  · rintro ⟨i, _, h⟩
    rw [Bool.and_eq_true, decide_eq_true_iff] at h
    exact ⟨i, h⟩
  · rintro ⟨i, h1, h2⟩
    exact ⟨i, List.mem_range.mpr (by omega), by rw [Bool.and_eq_true, decide_eq_true_iff]; exact ⟨h1, h2⟩⟩
theorem hasSub_no {s sub : ByteArray} {k : Nat} (h : ∀ j, j < k → subAt s sub j = false) (hk : ¬ k + sub.size ≤ s.size) : hasSub s sub = false := by
  rw [Bool.eq_false_iff]
  intro e
  obtain ⟨i, h1, h2⟩ := (hasSub_iff s sub).mp e
  rw [h i (by omega)] at h2
  cases h2

def IndexPost (s sub : ByteArray) (w : World) (e : Ending) (w' : World) : Prop :=
  ∃ r : Int, e = .returned (.int .i64 r) ∧ decide (0 ≤ r) = hasSub s sub ∧ w = w'

set_option maxHeartbeats 1000000 in
theorem zzIndex_any (s sub : ByteArray) (w : World) (hs : s.size ≤ 10000) (hb : sub.size ≤ 10000) :
    Calls Tryd.prog 91 #[.string s, .string sub] w (IndexPost s sub w) := by
  go_enter Tryd.func91, Tryd.ntmps91
  go_wp2
  go_loop [5] (fun i => ∃ k : Nat, i = .int .i64 k ∧ k ≤ s.size + 1 ∧ ∀ j, j < k → subAt s sub j = false) (fun i => s.size + 1 - (intOf i).toNat)
  case atStart => exact ⟨0, rfl, by omega, fun j h => by omega⟩
  case round =>
    obtain ⟨k, rfl, hk, hall⟩ := hrel
    have HA := Lib.hid hall; clear hall
    by_cases hlt : k + sub.size ≤ s.size
    · have hlti : (k : Int) + sub.size ≤ s.size := by omega
      have hq := beq_str2 (s.extract k (k + sub.size)) sub
      have hB : ∃ B, subAt s sub k = B ∧ (nb (s.extract k (k + sub.size)) == nb sub) = B := ⟨_, rfl, rfl⟩
      obtain ⟨B, hB1, hB2⟩ := hB
      rw [hB2] at hq
      have HB1 := Lib.hid hB1; clear hB1 hB2
      cases B with
      | true =>
        have HY := Lib.hid ((hasSub_iff s sub).mpr ⟨k, hlt, HB1.out⟩)
        go_wp2
        go_ret
        exact ⟨k, rfl, by rw [HY.out]; exact decide_eq_true (by omega), rfl⟩
      | false =>
        go_wp2
        go_round
        case rel =>
          refine ⟨k + 1, by go_num, by omega, fun j hj => ?_⟩
          by_cases e : j = k
          · subst e; exact HB1.out
          · exact HA.out j (by omega)
        case measure => simp [intOf] <;> omega
    · have hlti : (s.size : Int) < (k : Int) + sub.size := by omega
      have HN := Lib.hid (hasSub_no HA.out hlt)
      go_wp2
      go_ret
      exact ⟨-1, rfl, by rw [HN.out]; rfl, rfl⟩

set_option maxHeartbeats 400000 in
theorem zzContains_any (s sub : ByteArray) (w : World) (hs : s.size ≤ 10000) (hb : sub.size ≤ 10000) :
    Calls Tryd.prog 77 #[.string s, .string sub] w fun e w' => e = .returned (.bool (hasSub s sub)) ∧ w = w' := by
  go_enter Tryd.func77, Tryd.ntmps77
  go_wp2_with fail
  with_reducible refine (zzIndex_any s sub w hs hb).mono ?_
  rintro e w' ⟨r, rfl, hr, rfl⟩
  have HR := Lib.hid hr; clear hr
  go_wp2
  go_ret
  exact ⟨ret_bool HR.out, rfl⟩

-- A text that does not end with a blank.
set_option maxHeartbeats 1000000 in
theorem zzTrim_any (s : ByteArray) (m : Nat) (w : World) (hs : s.size ≤ 10000) (hm : s.size = m + 1) (hl : bx s m ≠ 32) :
    Calls Tryd.prog 76 #[.string s, .string ⟨#[32]⟩] w fun e w' => e = .returned (.string s) ∧ Below w.heap.size w w' := by
  have hms : m < s.size := by omega
  have hb := bx_get s m hms
  generalize bx s m = c at hb hl
  have q : ((32 : Int) == (c : Int)) = false := beq_eq_false_iff_ne.mpr (by omega)
  have e1 : IntKind.i64.wrap ((s.size : Int) - 1) = (m : Int) := by rw [IntWalk.i64_in _ (by omega)]; omega
  have hpos : (0 : Int) < s.size := by omega
  have HX : Hid (s.extract 0 s.size = s) := Lib.hid (nb_inj (nb_tail' s))
  have HM := Lib.hid hm; clear hm
  have h32 : ((⟨#[32]⟩ : ByteArray)[0]'(by decide)).toNat = 32 := rfl
  go_enter Tryd.func76, Tryd.ntmps76
  go_wp2
  go_loopw [5] (fun n wr => n = .int .i64 s.size ∧ Below w.heap.size w wr) (fun _ _ => 0)
  case atStart => exact ⟨rfl, Below.refl _ _⟩
  case round =>
    obtain ⟨rfl, hbel⟩ := hrel
    have HB := Lib.hid hbel; clear hbel
    go_wp2
    go_loopw [6, 7] (fun f i wr => ∃ k : Nat, k ≤ 1 ∧ i = .int .i64 k ∧ f = .bool false ∧ Below w.heap.size w wr) (fun _ i _ => 1 - (intOf i).toNat)
    case atStart => exact ⟨0, by omega, rfl, rfl, HB.out⟩
    case round =>
      obtain ⟨k, hk, rfl, rfl, hbel⟩ := hrel
      have HB2 := Lib.hid hbel; clear hbel
      by_cases hk0 : k = 0
      · subst hk0
        go_wp2
        go_quiet (fail)
        go_wp2
        go_roundw
        case rel => exact ⟨1, by omega, by first | rfl | go_num, rfl, below_drewN HB2.out _⟩
        case measure => simp [intOf] <;> omega
      · have hk1 : k = 1 := by omega
        subst hk1
        go_wp2
        go_ret
        exact ⟨by first | rfl | (rw [HX.out]; rfl), HB2.out⟩

/-- The text ends with p. -/
def suf (s p : ByteArray) : Bool := decide (p.size ≤ s.size) && (nb (s.extract (s.size - p.size) s.size) == nb p)

set_option maxHeartbeats 400000 in
theorem hasSuffixLite_any (s p : ByteArray) (w : World) (hs : s.size ≤ 10000) (hp : p.size ≤ 10000) :
    Calls Tryd.prog 90 #[.string s, .string p] w fun e w' => e = .returned (.bool (suf s p)) ∧ w = w' := by
  by_cases hle : p.size ≤ s.size
  · have hle' : (p.size : Int) ≤ s.size := by omega
    have hq := beq_str2 (s.extract (s.size - p.size) s.size) p
    have HQ : Hid (suf s p = (nb (s.extract (s.size - p.size) s.size) == nb p)) := Lib.hid (by unfold suf; rw [decide_eq_true hle]; rfl)
    generalize hB : (nb (s.extract (s.size - p.size) s.size) == nb p) = B at hq HQ
    clear hB
    obtain ⟨d, hd⟩ : ∃ d, s.size - p.size = d := ⟨_, rfl⟩
    rw [hd] at hq
    have e1 : (s.size : Int) - p.size = (d : Int) := by omega
    have hds : d ≤ s.size := by omega
    clear hd
    go_enter Tryd.func90, Tryd.ntmps90
    go_wp2
    go_ret
    exact ⟨ret_bool HQ.out.symm, rfl⟩
  · have hle' : (s.size : Int) < p.size := by omega
    have HQ : Hid (suf s p = false) := Lib.hid (by unfold suf; rw [decide_eq_false hle]; rfl)
    go_enter Tryd.func90, Tryd.ntmps90
    go_wp2
    go_ret
    exact ⟨ret_bool HQ.out.symm, rfl⟩

set_option maxHeartbeats 400000 in
theorem hasSuffix_any (s p : ByteArray) (w : World) (hs : s.size ≤ 10000) (hp : p.size ≤ 10000) :
    Calls Tryd.prog 75 #[.string s, .string p] w fun e w' => e = .returned (.bool (suf s p)) ∧ w = w' := by
  go_enter Tryd.func75, Tryd.ntmps75
  go_wp2_with fail
  with_reducible refine (hasSuffixLite_any _ _ _ hs hp).mono ?_
  rintro e w' ⟨rfl, rfl⟩
  generalize hB : suf s p = B
  have HB := Lib.hid hB; clear hB
  go_wp2
  go_ret
  exact ⟨ret_bool HB.out.symm, rfl⟩

/-! ## zzSplit at the strokes -/
structure SplitIn (s : ByteArray) (x k : Nat) (L : List ByteArray) : Prop where
  le : x ≤ k
  top : k ≤ s.size
  len : L.length ≤ k
  run : runS ((nb s).take k) = (L.map nb, nb (s.extract x k))
theorem SplitIn.start (s : ByteArray) : SplitIn s 0 0 [] := ⟨Nat.le_refl _, Nat.zero_le _, Nat.le_refl _, by rw [List.take_zero, nb_extract]; rfl⟩
theorem SplitIn.sep {s : ByteArray} {x k : Nat} {L : List ByteArray} (h : SplitIn s x k L) (hk : k < s.size) (hc : bx s k = 47) : SplitIn s (k + 1) (k + 1) (L ++ [s.extract x k]) := by
  refine ⟨Nat.le_refl _, by omega, by rw [List.length_append]; have := h.len; simp; omega, ?_⟩
  rw [take_next s k hk, runS_snoc, h.run]
  unfold stepS
  rw [if_pos hc, nb_extract s (k + 1) (k + 1)]
  simp
theorem SplitIn.go {s : ByteArray} {x k : Nat} {L : List ByteArray} (h : SplitIn s x k L) (hk : k < s.size) (hc : bx s k ≠ 47) : SplitIn s x (k + 1) L := by
  have hle := h.le
  refine ⟨by omega, by omega, by have := h.len; omega, ?_⟩
  rw [take_next s k hk, runS_snoc, h.run]
  unfold stepS
  rw [if_neg hc]
  congr 1
  rw [nb_extract, nb_extract, show k + 1 - x = (k - x) + 1 by omega, List.take_succ_eq_append_getElem (by rw [List.length_drop, nb_length]; omega), List.getElem_drop]
  congr 2
  rw [bx_getElem]
  congr 1; omega
theorem SplitIn.fin {s : ByteArray} {x k : Nat} {L : List ByteArray} (h : SplitIn s x k L) (hk : ¬ k < s.size) : (L ++ [s.extract x s.size]).map nb = splitN (nb s) := by
  have hk2 : k = s.size := by have := h.top; omega
  subst hk2
  have hr := h.run
  rw [List.take_of_length_le (by rw [nb_length]; omega)] at hr
  unfold splitN
  rw [hr, List.map_append]
  rfl

def SplitPost (s : ByteArray) (w : World) (e : Ending) (w' : World) : Prop :=
  ∃ v L, e = .returned v ∧ Own w' w.heap.size v L ∧ L.map nb = splitN (nb s) ∧ Below w.heap.size w w'

set_option maxRecDepth 100000 in
set_option maxHeartbeats 2000000 in
theorem zzSplit_any (s : ByteArray) (w : World) (hs : s.size ≤ 10000) :
    Calls Tryd.prog 78 #[.string s, .string ⟨#[47]⟩] w (SplitPost s w) := by
  obtain ⟨i0, hi, hz0, hz1, hz2⟩ := info_parts strInfo
  go_enter Tryd.func78, Tryd.ntmps78
  go_wp2
  go_loopw [5, 6, 7] (fun l a i wr => ∃ x k L, a = .int .i64 (x : Nat) ∧ i = .int .i64 (k : Nat) ∧ SplitIn s x k L ∧ Own wr w.heap.size l L ∧ Below w.heap.size w wr) (fun _ _ i _ => s.size - (intOf i).toNat)
  case atStart => exact ⟨0, 0, [], rfl, rfl, SplitIn.start s, Own.nil _ _, Below.refl _ _⟩
  case round =>
    obtain ⟨x, k, L, rfl, rfl, hcut0, hown, hbel⟩ := hrel
    have HC := Lib.hid hcut0
    have HOWN := Lib.hid hown
    have HB := Lib.hid hbel
    have hx := hcut0.le
    have htop := hcut0.top
    have hlen := hcut0.len
    clear hcut0 hown hbel
    by_cases hk : k < s.size
    · have hki : (k : Int) + 1 ≤ s.size := by omega
      have hq := beq_str (s.extract k (k + 1)) [47]
      have hB : (nb (s.extract k (k + 1)) == ([47] : List UInt8).map UInt8.toNat) = decide (bx s k = 47) := by
        rw [nb_extract, show k + 1 - k = 0 + 1 by omega, drop_bx' s k hk]
        rw [Bool.eq_iff_iff, beq_iff_eq, decide_eq_true_iff]
        constructor
        · intro h; exact (List.cons.inj h).1
        · intro h; rw [h]; rfl
      rw [hB] at hq
      clear hB
      by_cases h47 : bx s k = 47
      · rw [decide_eq_true h47] at hq
        have HN := Lib.hid (HC.out.sep hk h47)
        clear h47
        go_upto_region 6 with (fail)
        go_wp2_with (at_builtin; refine wpList_append_lies _ rfl (.tmp 24) (.tmp 29) 23 rfl w.heap.size 9 i0 (.string ⟨#[]⟩) 1 16 strsKind hi hz0 hz1 hz2 rfl (by decide) _ _ _ rfl (World.ownsRow.alloc HOWN.out _) ⟨wr.heap.size, 0, none⟩ 1 1 [.string (s.extract x k)] rfl rfl (news_str _ _) (one_str _) (by decide) ?c3 ?c4 ?c5 _ rfl ?_)
        case c3 => unfold maxLen; omega
        case c4 => omega
        case c5 => have := HB.out.size; first | omega | (rw [heap_new_size]; omega)
        intro gg cap2 w4 hown4 hgrow _ _
        have R := Lib.hid (Own.more hown4)
        have RB := Lib.hid ((HB.out.alloc HB.out.size _).grown hgrow (by have := HB.out.size; rw [heap_new_size]; omega) (fun q e => (HOWN.out.lt q e).1))
        clear hown4 hgrow
        go_wp2
        go_roundw
        case rel => exact ⟨k + 1, k + 1, _, by go_num, by go_num, HN.out, R.out, RB.out⟩
        case measure => simp [intOf]; omega
      · rw [decide_eq_false h47] at hq
        have HN := Lib.hid (HC.out.go hk h47)
        clear h47
        go_wp2
        go_roundw
        case rel => exact ⟨x, k + 1, L, by go_num, by go_num, HN.out, HOWN.out, HB.out⟩
        case measure => simp [intOf]; omega
    · have hki : (s.size : Int) < (k : Int) + 1 := by omega
      have HF := Lib.hid (HC.out.fin hk)
      have hxs : x ≤ s.size := by omega
      go_upto_region 10 with (fail)
      go_wp2_with (at_builtin; refine wpList_append_lies _ rfl (.tmp 38) (.tmp 42) 23 rfl w.heap.size 9 i0 (.string ⟨#[]⟩) 1 16 strsKind hi hz0 hz1 hz2 rfl (by decide) _ _ _ rfl (World.ownsRow.alloc HOWN.out _) ⟨wr.heap.size, 0, none⟩ 1 1 [.string (s.extract x s.size)] rfl rfl (news_str _ _) (one_str _) (by decide) ?d3 ?d4 ?d5 _ rfl ?_)
      case d3 => unfold maxLen; omega
      case d4 => omega
      case d5 => have := HB.out.size; first | omega | (rw [heap_new_size]; omega)
      intro gg cap2 w4 hown4 hgrow _ _
      have R := Lib.hid (Own.more hown4)
      have RB := Lib.hid ((HB.out.alloc HB.out.size _).grown hgrow (by have := HB.out.size; rw [heap_new_size]; omega) (fun q e => (HOWN.out.lt q e).1))
      clear hown4 hgrow
      go_wp2
      go_ret
      exact ⟨_, _, rfl, R.out, HF.out, RB.out⟩
end Go.Proofs.YteipeagdflcjjaaDoor
