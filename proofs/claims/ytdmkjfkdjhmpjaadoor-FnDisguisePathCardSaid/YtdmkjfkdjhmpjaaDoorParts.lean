/- The parts of a path: zzParts. -/
import Derived.Test.YtdmkjfkdjhmpjaaDoorOwn
import Derived.Test.YtdmkjfkdjhmpjaaDoorWord
import Derived.Test.YtdmkjfkdjhmpjaaDoorUtf
import Derived.Deep.DeepCutAuto
namespace Go.Proofs.YtdmkjfkdjhmpjaaDoor
open Go.RowKit
set_option linter.unusedSimpArgs false
set_option linter.unusedVariables false

def isSep (c : Nat) : Bool := decide (c = 47 ∨ c = 92)
def ne (l : List Nat) : List (List Nat) := if l = [] then [] else [l]
def stepP (st : List (List Nat) × List Nat) (c : Nat) : List (List Nat) × List Nat := if isSep c = true then (st.1 ++ ne st.2, []) else (st.1, st.2 ++ [c])
def runP (l : List Nat) : List (List Nat) × List Nat := l.foldl stepP ([], [])
def parts (l : List Nat) : List (List Nat) := (runP l).1 ++ ne (runP l).2

theorem runP_snoc (l : List Nat) (c : Nat) : runP (l ++ [c]) = stepP (runP l) c := by
  unfold runP; rw [List.foldl_append]; rfl
theorem fold_nosep (p : List Nat) (h : ∀ c ∈ p, isSep c = false) : ∀ d cur, p.foldl stepP (d, cur) = (d, cur ++ p) := by
  induction p with
  | nil => intro d cur; simp
  | cons a r ih =>
    intro d cur
    rw [List.foldl_cons]
    have ha : isSep a = false := h a (by simp)
    have : stepP (d, cur) a = (d, cur ++ [a]) := by unfold stepP; rw [ha]; simp
    rw [this, ih (fun c hc => h c (by simp [hc]))]
    simp
theorem parts_one (p : List Nat) (h : ∀ c ∈ p, isSep c = false) : parts p = ne p := by
  unfold parts runP
  rw [fold_nosep p h]
  simp
theorem parts_join (l p : List Nat) (h : ∀ c ∈ p, isSep c = false) : parts (l ++ [47] ++ p) = parts l ++ ne p := by
  have e : runP (l ++ [47] ++ p) = (parts l, p) := by
    unfold runP
    rw [List.foldl_append]
    have := runP_snoc l 47
    unfold runP at this
    rw [this]
    have h2 : stepP (List.foldl stepP ([], []) l) 47 = (parts l, []) := rfl
    rw [h2, fold_nosep p h]
    rfl
  conv => lhs; unfold parts
  rw [e]
theorem ne_some {p : List Nat} (h : p ≠ []) : ne p = [p] := if_neg h
theorem ne_nil : ne [] = [] := rfl

/-- At place k the text ends, or a sign stands that parts. -/
def sepAt (s : ByteArray) (k : Nat) : Bool := decide (k = s.size) || isSep (bx s k)

structure Cut (s : ByteArray) (x k : Nat) (L : List ByteArray) : Prop where
  le : x ≤ k
  top : k ≤ s.size + 1
  len : L.length ≤ k
  run : k ≤ s.size → runP ((nb s).take k) = (L.map nb, nb (s.extract x k))
  fin : k = s.size + 1 → L.map nb = parts (nb s)

theorem Cut.start (s : ByteArray) : Cut s 0 0 [] := ⟨Nat.le_refl _, Nat.zero_le _, Nat.le_refl _, fun _ => by
  rw [List.take_zero, nb_extract]; rfl, fun h => by omega⟩
theorem take_more (s : ByteArray) (k : Nat) (h : k < s.size) : (nb s).take (k + 1) = (nb s).take k ++ [bx s k] := by
  rw [List.take_succ_eq_append_getElem (by rw [nb_length]; exact h), bx_getElem]
theorem Cut.sep {s : ByteArray} {x k : Nat} {L L' : List ByteArray} (h : Cut s x k L) (hk : k ≤ s.size) (hs : sepAt s k = true) (hL : L'.map nb = L.map nb ++ ne (nb (s.extract x k))) (hl : L'.length ≤ k + 1) : Cut s (k + 1) (k + 1) L' := by
  have hr := h.run hk
  refine ⟨Nat.le_refl _, by omega, hl, fun h1 => ?_, fun h1 => ?_⟩
  · have hs2 : isSep (bx s k) = true := by
      unfold sepAt at hs
      rw [Bool.or_eq_true, decide_eq_true_iff] at hs
      rcases hs with hs | hs
      · omega
      · exact hs
    rw [take_more s k (by omega), runP_snoc, hr]
    unfold stepP
    rw [if_pos hs2, hL]
    congr 1
    rw [nb_extract]; simp
  · have hk2 : k = s.size := by omega
    rw [hL]
    unfold parts
    rw [List.take_of_length_le (by rw [nb_length]; omega)] at hr
    rw [hr]
theorem Cut.go {s : ByteArray} {x k : Nat} {L : List ByteArray} (h : Cut s x k L) (hk : k ≤ s.size) (hs : sepAt s k = false) : Cut s x (k + 1) L := by
  have hr := h.run hk
  unfold sepAt at hs
  rw [Bool.or_eq_false_iff, decide_eq_false_iff_not] at hs
  have hlt : k < s.size := by omega
  have hle := h.le
  refine ⟨by omega, by omega, by have := h.len; omega, fun h1 => ?_, fun h1 => by omega⟩
  rw [take_more s k hlt, runP_snoc, hr]
  unfold stepP
  rw [if_neg (by rw [hs.2]; simp)]
  congr 1
  rw [nb_extract, nb_extract, show k + 1 - x = (k - x) + 1 by omega, List.take_succ_eq_append_getElem (by rw [List.length_drop, nb_length]; omega), List.getElem_drop]
  congr 2
  rw [bx_getElem]
  congr 1; omega

def PartsPost (s : ByteArray) (w : World) (e : Ending) (w' : World) : Prop :=
  ∃ v L, e = .returned v ∧ Own w' w.heap.size v L ∧ L.map nb = parts (nb s) ∧ Below w.heap.size w w'

set_option maxHeartbeats 2000000 in
theorem zzParts_any (s : ByteArray) (w : World) (hs : s.size ≤ 10000) :
    Calls Tryd.prog 21 #[.string s] w (PartsPost s w) := by
  obtain ⟨i0, hi, hz0, hz1, hz2⟩ := info_parts strInfo
  go_enter Tryd.func21, Tryd.ntmps21
  go_wp2
  go_loopw [3, 4, 5] (fun l a i wr => ∃ x k L, a = .int .i64 (x : Nat) ∧ i = .int .i64 (k : Nat) ∧ Cut s x k L ∧ Own wr w.heap.size l L ∧ Below w.heap.size w wr) (fun _ _ i _ => s.size + 1 - (intOf i).toNat)
  case atStart => exact ⟨0, 0, [], rfl, rfl, Cut.start s, Own.nil _ _, Below.refl _ _⟩
  case round =>
    obtain ⟨x, k, L, rfl, rfl, hcut0, hown, hbel⟩ := hrel
    have HC := Lib.hid hcut0
    have HOWN := Lib.hid hown
    have HB := Lib.hid hbel
    have hx := hcut0.le
    have htop := hcut0.top
    have hlen := hcut0.len
    clear hcut0 hown hbel
    by_cases hk : k ≤ s.size
    · go_upto_region 6 with (fail)
      go_cut [27] (fun v wx => v = .bool (sepAt s k) ∧ wx = wr)
      case first =>
        by_cases he : k = s.size
        · have HS : Hid (sepAt s k = true) := Lib.hid (by unfold sepAt; rw [decide_eq_true he]; rfl)
          go_wp2
          go_meet
          case rel => exact ⟨by rw [HS.out], rfl⟩
        · have hlt : k < s.size := by omega
          have hb := bx_get s k hlt
          have HE := Lib.hid he
          by_cases h1 : bx s k = 47
          · have HS : Hid (sepAt s k = true) := Lib.hid (by unfold sepAt isSep; rw [h1]; simp)
            generalize bx s k = c at hb h1
            have q1 : ((c : Int) == 47) = true := by simp [h1]
            have ne0 : ((k : Int) == s.size) = false := by simp; omega
            go_wp2
            go_meet
            case rel => exact ⟨by rw [HS.out], rfl⟩
          · by_cases h2 : bx s k = 92
            · have HS : Hid (sepAt s k = true) := Lib.hid (by unfold sepAt isSep; rw [h2]; simp)
              generalize bx s k = c at hb h1 h2
              have q1 : ((c : Int) == 47) = false := by simp [h1]; omega
              have q2 : ((c : Int) == 92) = true := by simp [h2]
              have ne0 : ((k : Int) == s.size) = false := by simp; omega
              go_wp2
              go_meet
              case rel => exact ⟨by rw [HS.out], rfl⟩
            · have HS : Hid (sepAt s k = false) := Lib.hid (by unfold sepAt isSep; simp [h1, h2, he])
              generalize bx s k = c at hb h1 h2
              have q1 : ((c : Int) == 47) = false := by simp; omega
              have q2 : ((c : Int) == 92) = false := by simp; omega
              have ne0 : ((k : Int) == s.size) = false := by simp; omega
              go_wp2
              go_meet
              case rel => exact ⟨by rw [HS.out], rfl⟩
      case rest =>
        obtain ⟨rfl, rfl⟩ := hcut
        generalize hB : sepAt s k = B
        cases B with
        | false =>
          have HN := Lib.hid (HC.out.go hk hB)
          clear hB
          go_wp2
          go_roundw
          case rel => exact ⟨x, k + 1, L, rfl, by go_num, HN.out, HOWN.out, HB.out⟩
          case measure => simp [intOf]; omega
        | true =>
          by_cases hxk : x < k
          · have hsz : (s.extract x k).size = k - x := by rw [ByteArray.size_extract]; omega
            have HN := Lib.hid (HC.out.sep (L' := L ++ [s.extract x k]) hk hB (by rw [List.map_append, ne_some (fun e => by have := congrArg List.length e; rw [nb_length, hsz] at this; simp at this; omega)]; rfl) (by rw [List.length_append]; simp; omega))
            clear hB hsz
            go_upto_region 8 with (fail)
            go_wp2_with (at_builtin; refine wpList_append_lies _ rfl (.tmp 31) (.tmp 36) 22 rfl w.heap.size 9 i0 (.string ⟨#[]⟩) 1 16 strsKind hi hz0 hz1 hz2 rfl (by decide) _ _ _ rfl (World.ownsRow.alloc HOWN.out _) ⟨wc.heap.size, 0, none⟩ 1 1 [.string (s.extract x k)] rfl rfl (news_str _ _) (one_str _) (by decide) ?c3 ?c4 ?c5 _ rfl ?_)
            case c3 => unfold maxLen; omega
            case c4 => omega
            case c5 => have := HB.out.size; first | omega | (rw [heap_new_size]; omega)
            intro gg cap2 w4 hown4 hgrow _ _
            have R := Lib.hid (Own.more hown4)
            have RB := Lib.hid ((HB.out.alloc HB.out.size _).grown hgrow (by have := HB.out.size; rw [heap_new_size]; omega) (fun q e => (HOWN.out.lt q e).1))
            clear hown4 hgrow
            go_wp2
            go_roundw
            case rel => exact ⟨k + 1, k + 1, _, by go_num, by go_num, HN.out, R.out, RB.out⟩
            case measure => simp [intOf]; omega
          · have HN := Lib.hid (HC.out.sep (L' := L) hk hB (by rw [show nb (s.extract x k) = [] by rw [nb_extract, show k - x = 0 by omega]; simp, ne_nil, List.append_nil]) (by omega))
            clear hB
            go_wp2
            go_roundw
            case rel => exact ⟨k + 1, k + 1, L, by go_num, by go_num, HN.out, HOWN.out, HB.out⟩
            case measure => simp [intOf]; omega
    · have HF := Lib.hid (HC.out.fin (by omega))
      go_wp2
      go_ret
      exact ⟨_, L, rfl, HOWN.out, HF.out, HB.out⟩
end Go.Proofs.YtdmkjfkdjhmpjaaDoor
