/- The small functions of gitattributes' lines: zzTrim, unquote, zzFields, validAttributeName, zzPair. -/
import Derived.Test.YteipeagdflcjjaaDoorGaSearch
import Derived.Test.YteipeagdflcjjaaDoorOwn
import Derived.Deep.RegionLaw
import Derived.Test.YteipeagdflcjjaaDoorChunk
import Derived.Lib.BufferMore
import Derived.Outline
import Derived.Deep.RegionHeld3
namespace Go.Proofs.YteipeagdflcjjaaDoor
open Go.RowKit
set_option linter.unusedSimpArgs false
set_option linter.unusedVariables false

set_option maxRecDepth 100000 in
set_option maxHeartbeats 1000000 in
theorem atTrim_any (b n c x y : Nat) (w : World) (h1 : 1 ≤ n) (hn : n ≤ 100000) (hx : 33 ≤ x) (hy : 33 ≤ y) (cx : w.cell? ⟨b, 0, none⟩ = some (.int .u8 (x : Nat))) (cy : w.cell? ⟨b, n - 1, none⟩ = some (.int .u8 (y : Nat))) :
    Calls Tryd.prog 55 #[.slice (some ⟨b, 0, none⟩) n c] w fun e w' => e = .returned (.slice (some ⟨b, 0, none⟩) n c) ∧ w = w' := by
  have a1 : ((x : Int) == 32) = false := beq_eq_false_iff_ne.mpr (by omega)
  have a2 : (9 : Int) ≤ x := by omega
  have a3 : ¬ (x : Int) ≤ 13 := by omega
  have b1 : ((y : Int) == 32) = false := beq_eq_false_iff_ne.mpr (by omega)
  have b2 : (9 : Int) ≤ y := by omega
  have b3 : ¬ (y : Int) ≤ 13 := by omega
  have hp : (0 : Int) < n := by omega
  obtain ⟨m, rfl⟩ : ∃ m, n = m + 1 := ⟨n - 1, by omega⟩
  rw [Nat.add_sub_cancel] at cy
  clear hx hy
  go_enter Tryd.func55, Tryd.ntmps55
  go_wp2
  go_loop [0] (fun i => i = .slice (some ⟨b, 0, none⟩) (m + 1) c) (fun i => 0)
  case atStart => rfl
  case round =>
    obtain rfl := hrel
    go_wp2
    go_loop [0] (fun i => i = .slice (some ⟨b, 0, none⟩) (m + 1) c) (fun i => 0)
    case atStart => rfl
    case round =>
      obtain rfl := hrel
      go_wp2
      go_ret
      exact ⟨rfl, rfl⟩
set_option maxRecDepth 100000 in
set_option maxHeartbeats 1000000 in
theorem atTrim_nil (A : Option Addr) (c : Nat) (w : World) :
    Calls Tryd.prog 55 #[.slice A 0 c] w fun e w' => e = .returned (.slice A 0 c) ∧ w = w' := by
  go_enter Tryd.func55, Tryd.ntmps55
  go_wp2
  go_loop [0] (fun i => i = .slice A 0 c) (fun i => 0)
  case atStart => rfl
  case round =>
    obtain rfl := hrel
    go_wp2
    go_loop [0] (fun i => i = .slice A 0 c) (fun i => 0)
    case atStart => rfl
    case round =>
      obtain rfl := hrel
      go_wp2
      go_ret
      exact ⟨rfl, rfl⟩

set_option maxHeartbeats 1000000 in
theorem unquote_any (s : ByteArray) (w : World) (h1 : 1 ≤ s.size) (h : bx s 0 ≠ 34) :
    Calls Tryd.prog 57 #[.string s] w fun e w' => e = .returned (.tuple #[.string ⟨#[]⟩, .string s]) ∧ w = w' := by
  have hb := bx_get s 0 (by omega)
  have hl : (0 : Int) < s.size := by omega
  generalize bx s 0 = x at hb h
  have q : ((x : Int) == 34) = false := beq_eq_false_iff_ne.mpr (by omega)
  clear h
  go_enter Tryd.func57, Tryd.ntmps57
  go_wp2
  go_ret2
  exact ⟨rfl, rfl⟩

/-! ## Fields -/
def isBl (c : Nat) : Bool := decide (c = 32 ∨ (9 ≤ c ∧ c ≤ 13))
def stepF (st : List (List Nat) × Option (List Nat)) (c : Nat) : List (List Nat) × Option (List Nat) :=
  if isBl c = true then (match st.2 with
    | some cur => (st.1 ++ [cur], none)
    | none => (st.1, none)) else (st.1, some (st.2.getD [] ++ [c]))
def runF (l : List Nat) : List (List Nat) × Option (List Nat) := l.foldl stepF ([], none)
def fieldsN (l : List Nat) : List (List Nat) := (runF l).1 ++ (match (runF l).2 with
  | some cur => [cur]
  | none => [])
theorem runF_snoc (l : List Nat) (c : Nat) : runF (l ++ [c]) = stepF (runF l) c := by unfold runF; rw [List.foldl_append]; rfl
/-- What has been parted ahead of place k. -/
structure FldIn (s : ByteArray) (st : Int) (k : Nat) (L : List ByteArray) : Prop where
  top : k ≤ s.size
  len : L.length ≤ k
  run : (st = -1 ∧ runF ((nb s).take k) = (L.map nb, none)) ∨ (∃ x : Nat, st = (x : Nat) ∧ x < k ∧ runF ((nb s).take k) = (L.map nb, some (nb (s.extract x k))))
theorem FldIn.start (s : ByteArray) : FldIn s (-1) 0 [] := ⟨Nat.zero_le _, Nat.le_refl _, .inl ⟨rfl, rfl⟩⟩
theorem FldIn.flush {s : ByteArray} {x k : Nat} {L : List ByteArray} (h : FldIn s (x : Nat) k L) (hk : k < s.size) (hb : isBl (bx s k) = true) : FldIn s (-1) (k + 1) (L ++ [s.extract x k]) := by
  refine ⟨by omega, by rw [List.length_append]; have := h.len; simp; omega, .inl ⟨rfl, ?_⟩⟩
  rcases h.run with ⟨h1, _⟩ | ⟨y, h1, _, h2⟩
  · omega
  · obtain rfl : x = y := by omega
    rw [take_next s k hk, runF_snoc, h2]
    unfold stepF
    rw [if_pos hb, List.map_append]
    rfl
theorem FldIn.skip {s : ByteArray} {k : Nat} {L : List ByteArray} (h : FldIn s (-1) k L) (hk : k < s.size) (hb : isBl (bx s k) = true) : FldIn s (-1) (k + 1) L := by
  refine ⟨by omega, by have := h.len; omega, .inl ⟨rfl, ?_⟩⟩
  rcases h.run with ⟨_, h2⟩ | ⟨y, h1, _⟩
  · rw [take_next s k hk, runF_snoc, h2]
    unfold stepF
    rw [if_pos hb]
  · omega
theorem FldIn.begin {s : ByteArray} {k : Nat} {L : List ByteArray} (h : FldIn s (-1) k L) (hk : k < s.size) (hb : isBl (bx s k) = false) : FldIn s (k : Nat) (k + 1) L := by
  refine ⟨by omega, by have := h.len; omega, .inr ⟨k, rfl, by omega, ?_⟩⟩
  rcases h.run with ⟨_, h2⟩ | ⟨y, h1, _⟩
  · rw [take_next s k hk, runF_snoc, h2]
    unfold stepF
    rw [if_neg (by rw [hb]; decide)]
    congr 2
    rw [nb_extract, show k + 1 - k = 0 + 1 by omega, drop_bx' s k hk]
    rfl
  · omega
theorem FldIn.go {s : ByteArray} {x k : Nat} {L : List ByteArray} (h : FldIn s (x : Nat) k L) (hk : k < s.size) (hb : isBl (bx s k) = false) : FldIn s (x : Nat) (k + 1) L := by
  rcases h.run with ⟨h1, _⟩ | ⟨y, h1, hy, h2⟩
  · omega
  · obtain rfl : x = y := by omega
    refine ⟨by omega, by have := h.len; omega, .inr ⟨x, rfl, by omega, ?_⟩⟩
    rw [take_next s k hk, runF_snoc, h2]
    unfold stepF
    rw [if_neg (by rw [hb]; decide)]
    congr 2
    show nb (s.extract x k) ++ [bx s k] = _
    rw [nb_extract, nb_extract, show k + 1 - x = (k - x) + 1 by omega, List.take_succ_eq_append_getElem (by rw [List.length_drop, nb_length]; omega), List.getElem_drop]
    congr 2
    rw [bx_getElem]
    congr 1; omega
theorem FldIn.fin {s : ByteArray} {st : Int} {L : List ByteArray} (h : FldIn s st s.size L) : (st = -1 ∧ L.map nb = fieldsN (nb s)) ∨ (∃ x : Nat, st = (x : Nat) ∧ x < s.size ∧ (L ++ [s.extract x s.size]).map nb = fieldsN (nb s)) := by
  have ht : (nb s).take s.size = nb s := List.take_of_length_le (by rw [nb_length]; omega)
  rcases h.run with ⟨h1, h2⟩ | ⟨x, h1, hx, h2⟩
  · rw [ht] at h2
    exact .inl ⟨h1, by unfold fieldsN; rw [h2]; simp⟩
  · rw [ht] at h2
    exact .inr ⟨x, h1, hx, by unfold fieldsN; rw [h2, List.map_append]; rfl⟩
def FieldsPost (s : ByteArray) (w : World) (e : Ending) (w' : World) : Prop :=
  ∃ v L, e = .returned v ∧ Own w' w.heap.size v L ∧ L.map nb = fieldsN (nb s) ∧ Below w.heap.size w w'

set_option maxRecDepth 100000 in
set_option maxHeartbeats 4000000 in
theorem zzFields_any (s : ByteArray) (w : World) (hs : s.size ≤ 10000) :
    Calls Tryd.prog 58 #[.string s] w (FieldsPost s w) := by
  obtain ⟨i0, hi, hz0, hz1, hz2⟩ := info_parts strInfo
  go_enter Tryd.func58, Tryd.ntmps58
  go_wp2
  go_loopw [3, 4, 5] (fun l a i wr => ∃ (st : Int) (k : Nat) (L : List ByteArray), a = .int .i64 st ∧ i = .int .i64 (k : Nat) ∧ Own wr w.heap.size l L ∧ Below w.heap.size w wr ∧ L.length ≤ k ∧ ((k ≤ s.size ∧ FldIn s st k L) ∨ (k = s.size + 1 ∧ L.map nb = fieldsN (nb s)))) (fun _ _ i _ => s.size + 1 - (intOf i).toNat)
  case atStart => exact ⟨-1, 0, [], rfl, rfl, Own.nil _ _, Below.refl _ _, Nat.le_refl _, .inl ⟨Nat.zero_le _, FldIn.start s⟩⟩
  case round =>
    obtain ⟨st, k, L, rfl, rfl, hown, hbel, hlen, hst⟩ := hrel
    have HOWN := Lib.hid hown
    have HB := Lib.hid hbel
    clear hown hbel
    rcases hst with ⟨hk, hst⟩ | ⟨hk, hst⟩
    · have HST := Lib.hid hst
      clear hst
      have hle : (k : Int) ≤ s.size := by omega
      obtain ⟨B, hB⟩ : ∃ B : Bool, B = (decide (k = s.size) || isBl (bx s k)) := ⟨_, rfl⟩
      have HBB := Lib.hid hB
      clear hB
      go_upto_region 6 with (fail)
      go_cut [6] (fun v wx => v = .bool B ∧ wr = wx)
      case first =>
        by_cases hlt : k < s.size
        · have hb := bx_get s k hlt
          have hq : ((k : Int) == (s.size : Int)) = false := beq_eq_false_iff_ne.mpr (by omega)
          have HBL : Hid (B = isBl (bx s k)) := Lib.hid (by rw [HBB.out, decide_eq_false (by omega), Bool.false_or])
          clear HBB
          generalize bx s k = y at hb HBL
          by_cases h32 : y = 32
          · have HN : Hid (B = true) := Lib.hid (by rw [HBL.out]; subst h32; rfl)
            subst h32
            clear HBL
            go_wp2
            go_meet
            case rel => exact ⟨by rw [HN.out], rfl⟩
          · have q1 : ((y : Int) == 32) = false := beq_eq_false_iff_ne.mpr (by omega)
            by_cases h9 : 9 ≤ y
            · have q2 : (9 : Int) ≤ y := by omega
              by_cases h13 : y ≤ 13
              · have q3 : (y : Int) ≤ 13 := by omega
                have HN : Hid (B = true) := Lib.hid (by rw [HBL.out]; unfold isBl; rw [decide_eq_true_iff]; exact .inr ⟨h9, h13⟩)
                clear HBL
                go_wp2
                go_meet
                case rel => exact ⟨by rw [HN.out], rfl⟩
              · have q3 : ¬ (y : Int) ≤ 13 := by omega
                have HN : Hid (B = false) := Lib.hid (by rw [HBL.out]; unfold isBl; rw [decide_eq_false_iff_not]; omega)
                clear HBL
                go_wp2
                go_meet
                case rel => exact ⟨by rw [HN.out], rfl⟩
            · have q2 : ¬ (9 : Int) ≤ y := by omega
              have HN : Hid (B = false) := Lib.hid (by rw [HBL.out]; unfold isBl; rw [decide_eq_false_iff_not]; omega)
              clear HBL
              go_wp2
              go_meet
              case rel => exact ⟨by rw [HN.out], rfl⟩
        · obtain rfl : k = s.size := by omega
          have hq : ((s.size : Int) == (s.size : Int)) = true := beq_self_eq_true _
          have HN : Hid (B = true) := Lib.hid (by rw [HBB.out, decide_eq_true rfl, Bool.true_or])
          clear HBB
          go_wp2
          go_meet
          case rel => exact ⟨by rw [HN.out], rfl⟩
      case rest =>
        obtain ⟨rfl, rfl⟩ := hcut
        rcases HST.out.run with ⟨hst1, _⟩ | ⟨x, hst1, hxk, _⟩
        · subst hst1
          cases B with
          | true =>
            by_cases hlt : k < s.size
            · have HN := Lib.hid (HST.out.skip hlt (by have := HBB.out; rwa [decide_eq_false (by omega), Bool.false_or, eq_comm] at this))
              go_wp2
              go_roundw
              case rel => exact ⟨-1, k + 1, L, rfl, by go_num, HOWN.out, HB.out, by omega, .inl ⟨by omega, HN.out⟩⟩
              case measure => simp [intOf]; omega
            · obtain rfl : k = s.size := by omega
              have HF : Hid (L.map nb = fieldsN (nb s)) := Lib.hid (by
                rcases HST.out.fin with ⟨_, h⟩ | ⟨x, h, _⟩
                · exact h
                · omega)
              go_wp2
              go_roundw
              case rel => exact ⟨-1, s.size + 1, L, rfl, by go_num, HOWN.out, HB.out, by omega, .inr ⟨rfl, HF.out⟩⟩
              case measure => simp [intOf]
          | false =>
            have hlt : k < s.size := by
              by_cases h : k = s.size
              · have := HBB.out; rw [decide_eq_true h] at this; cases this
              · omega
            have HN := Lib.hid (HST.out.begin hlt (by have := HBB.out; rwa [decide_eq_false (by omega), Bool.false_or, eq_comm] at this))
            go_wp2
            go_roundw
            case rel => exact ⟨(k : Nat), k + 1, L, rfl, by go_num, HOWN.out, HB.out, by omega, .inl ⟨by omega, HN.out⟩⟩
            case measure => simp [intOf]; omega
        · subst hst1
          have hx0 : (0 : Int) ≤ x := by omega
          have hxk2 : (x : Int) ≤ k := by omega
          cases B with
          | true =>
            have hL : Hid ((k < s.size ∧ FldIn s (-1) (k + 1) (L ++ [s.extract x k])) ∨ (k = s.size ∧ (L ++ [s.extract x k]).map nb = fieldsN (nb s))) := Lib.hid (by
              by_cases hlt : k < s.size
              · exact .inl ⟨hlt, HST.out.flush hlt (by have := HBB.out; rwa [decide_eq_false (by omega), Bool.false_or, eq_comm] at this)⟩
              · obtain rfl : k = s.size := by omega
                refine .inr ⟨rfl, ?_⟩
                rcases HST.out.fin with ⟨h, _⟩ | ⟨x2, h, _, h2⟩
                · omega
                · obtain rfl : x = x2 := by omega
                  exact h2)
            go_upto_region 8 with (fail)
            go_wp2_with (at_builtin; refine wpList_append_lies _ rfl (.tmp 40) (.tmp 45) 23 rfl w.heap.size 9 i0 (.string ⟨#[]⟩) 1 16 strsKind hi hz0 hz1 hz2 rfl (by decide) _ _ _ rfl (World.ownsRow.alloc HOWN.out _) ⟨wr.heap.size, 0, none⟩ 1 1 [.string (s.extract x k)] rfl rfl (news_str _ _) (one_str _) (by decide) ?c3 ?c4 ?c5 _ rfl ?_)
            case c3 => unfold maxLen; omega
            case c4 => omega
            case c5 => have := HB.out.size; first | omega | (rw [heap_new_size]; omega)
            intro gg cap2 w4 hown4 hgrow _ _
            have R := Lib.hid (Own.more hown4)
            have RB := Lib.hid ((HB.out.alloc HB.out.size _).grown hgrow (by have := HB.out.size; rw [heap_new_size]; omega) (fun q e => (HOWN.out.lt q e).1))
            clear hown4 hgrow
            go_wp2
            go_roundw
            case rel =>
              refine ⟨-1, k + 1, _, rfl, by go_num, R.out, RB.out, by rw [List.length_append]; simp; omega, ?_⟩
              rcases hL.out with ⟨h1, h2⟩ | ⟨h1, h2⟩
              · exact .inl ⟨by omega, h2⟩
              · exact .inr ⟨by omega, h2⟩
            case measure => simp [intOf]; omega
          | false =>
            have hlt : k < s.size := by
              by_cases h : k = s.size
              · have := HBB.out; rw [decide_eq_true h] at this; cases this
              · omega
            have HN := Lib.hid (HST.out.go hlt (by have := HBB.out; rwa [decide_eq_false (by omega), Bool.false_or, eq_comm] at this))
            go_wp2
            go_roundw
            case rel => exact ⟨(x : Nat), k + 1, L, rfl, by go_num, HOWN.out, HB.out, by omega, .inl ⟨by omega, HN.out⟩⟩
            case measure => simp [intOf]; omega
    · have hk' : ¬ (k : Int) ≤ s.size := by omega
      have HF := Lib.hid hst
      clear hst hk
      go_wp2
      go_ret
      exact ⟨_, L, rfl, HOWN.out, HF.out, HB.out⟩
end Go.Proofs.YteipeagdflcjjaaDoor
/- validAttributeName, zzPair, checkMacro. -/
namespace Go.Proofs.YteipeagdflcjjaaDoor
open Go.RowKit
set_option linter.unusedSimpArgs false
set_option linter.unusedVariables false

/-- A sign that may stand in an attribute's name. -/
def okN (c : Nat) : Bool := decide (c = 45 ∨ c = 46 ∨ c = 95 ∨ (48 ≤ c ∧ c ≤ 57) ∨ (97 ≤ c ∧ c ≤ 122) ∨ (65 ≤ c ∧ c ≤ 90))
def vname (s : ByteArray) : Bool := decide (s.size ≠ 0 ∧ bx s 0 ≠ 45) && (nb s).all okN
theorem vname_no {s : ByteArray} {k : Nat} (hk : k < s.size) (h : okN (bx s k) = false) : vname s = false := by
  unfold vname
  rw [Bool.and_eq_false_iff]
  right
  rw [List.all_eq_false]
  exact ⟨bx s k, by rw [← bx_getElem s k (by rw [nb_length]; exact hk)]; exact List.getElem_mem _, by rw [h]; decide⟩
theorem vname_yes {s : ByteArray} (h0 : s.size ≠ 0) (h1 : bx s 0 ≠ 45) (h : ∀ j, j < s.size → okN (bx s j) = true) : vname s = true := by
  unfold vname
  rw [Bool.and_eq_true, decide_eq_true_iff, List.all_eq_true]
  refine ⟨⟨h0, h1⟩, fun c hc => ?_⟩
  obtain ⟨i, hi, rfl⟩ := List.getElem_of_mem hc
  rw [bx_getElem]
  exact h i (by rwa [nb_length] at hi)

def VnPost (s : ByteArray) (w : World) (e : Ending) (w' : World) : Prop := e = .returned (.bool (vname s)) ∧ Below w.heap.size w w'
set_option maxRecDepth 100000 in
set_option maxHeartbeats 4000000 in
theorem validName_any (s : ByteArray) (w : World) (hs : s.size ≤ 10000) (ha : Asc s) :
    Calls Tryd.prog 61 #[.string s] w (VnPost s w) := by
  have HA := Lib.hid ha; clear ha
  by_cases h0 : s.size = 0
  · have hq : ((s.size : Int) == 0) = true := beq_iff_eq.mpr (by omega)
    have HF : Hid (vname s = false) := Lib.hid (by unfold vname; rw [decide_eq_false (by omega)]; rfl)
    clear h0
    go_enter Tryd.func61, Tryd.ntmps61
    go_wp2
    go_ret
    exact ⟨ret_bool HF.out.symm, Below.refl _ _⟩
  · have hq : ((s.size : Int) == 0) = false := beq_eq_false_iff_ne.mpr (by omega)
    have hb0 := bx_get s 0 (by omega)
    have hl0 : (0 : Int) < s.size := by omega
    by_cases h45 : bx s 0 = 45
    · have HF : Hid (vname s = false) := Lib.hid (by unfold vname; rw [decide_eq_false (by omega)]; rfl)
      rw [h45] at hb0
      clear h45
      go_enter Tryd.func61, Tryd.ntmps61
      go_wp2
      go_ret
      exact ⟨ret_bool HF.out.symm, Below.refl _ _⟩
    · have hq1 : ((bx s 0 : Int) == 45) = false := beq_eq_false_iff_ne.mpr (by omega)
      have H45 := Lib.hid h45
      generalize hbx : bx s 0 = b0 at hb0 hq1
      clear h45 hbx
      go_enter Tryd.func61, Tryd.ntmps61
      go_wp2
      clear hb0 hq1 hl0
      generalize hB1 : w.heap.size = b1
      have HB1 := Lib.hid hB1; clear hB1
      have hit0 : (w.iter s 0).heap[b1]? = some (.stringIter s 0) := by rw [← HB1.out]; exact World.iter_heap _ _ _
      have hb0 : Below b1 w (w.iter s 0) := (Below.refl _ _).alloc (by rw [← HB1.out]; exact Nat.le_refl _) _
      generalize w.iter s 0 = w1 at hit0 hb0
      have HB0 := Lib.hid hb0; clear hb0
      have HI0 := Lib.hid hit0; clear hit0
      go_loopw [4] (fun _ wr => ∃ j, j ≤ s.size ∧ (∀ i, i < j → okN (bx s i) = true) ∧ Below b1 w wr ∧ wr.heap[b1]? = some (.stringIter s j)) (fun _ wr => s.size - wr.iterPos b1)
      case atStart => exact ⟨0, by omega, fun i h => by omega, HB0.out, HI0.out⟩
      case round =>
        clear HB0 HI0
        obtain ⟨j, hjs, hall, hbw, hit⟩ := hrel
        have HALL := Lib.hid hall; clear hall
        have hlb : b1 < wr.heap.size := (Array.getElem?_eq_some_iff.1 hit).1
        by_cases hlt : j < s.size
        · have hx := HA.out j hlt
          have hnx := Lib.run_next_ascii_at (P := Tryd.prog) wr b1 s j 0 hit hlt (by rw [bx_get]; exact hx)
          rw [bx_get] at hnx
          have hb2 : Below b1 w (wr.iterAt b1 s (j + 1)) := Lib.below_iterAt hbw (Nat.le_refl _) _ _
          have hi2 := Lib.iterAt_heap wr b1 s j (j + 1) hit
          have hsz2 : b1 < (wr.iterAt b1 s (j + 1)).heap.size := (Array.getElem?_eq_some_iff.1 hi2).1
          have hp1 : wr.iterPos b1 = j := by simp [World.iterPos, hit]
          have HP1 := Lib.hid hp1; clear hp1
          generalize hxx : bx s j = x at hnx hx
          have HX := Lib.hid hxx; clear hxx
          have HB2 := Lib.hid hb2; have HI2 := Lib.hid hi2
          generalize wr.iterAt b1 s (j + 1) = w3 at *
          have hp2 : w3.iterPos b1 = j + 1 := by simp [World.iterPos, hi2]
          have HP2 := Lib.hid hp2; clear hp2 hb2 hi2 hit hbw
          go_wp2
          all_goals first
            | (go_roundw
               case rel =>
                 refine ⟨j + 1, by omega, fun i hi => ?_, HB2.out, HI2.out⟩
                 by_cases e : i = j
                 · subst e
                   rw [HX.out]
                   unfold okN
                   rw [decide_eq_true_iff]
                   try simp only [Bool.not_eq_true', Bool.not_eq_false', decide_eq_true_eq, decide_eq_false_iff_not, beq_iff_eq, beq_eq_false_iff_ne, bne_iff_ne, ne_eq, bne_eq_false_iff_eq] at *
                   omega
                 · exact HALL.out i (by omega)
               case measure => rw [HP1.out, HP2.out]; omega)
            | (go_ret
               refine ⟨ret_bool (vname_no hlt ?_).symm, HB1.out ▸ HB2.out⟩
               rw [HX.out]
               unfold okN
               rw [decide_eq_false_iff_not]
               try simp only [Bool.not_eq_true', Bool.not_eq_false', decide_eq_true_eq, decide_eq_false_iff_not, beq_iff_eq, beq_eq_false_iff_ne, bne_iff_ne, ne_eq, bne_eq_false_iff_eq] at *
               omega)
        · obtain rfl : j = s.size := by omega
          have hnx := Lib.run_next_end_at (P := Tryd.prog) wr b1 s s.size 0 hit hlt
          have HF : Hid (vname s = true) := Lib.hid (vname_yes h0 H45.out HALL.out)
          go_wp2
          go_ret
          exact ⟨ret_bool HF.out.symm, HB1.out ▸ hbw⟩

/-! ## zzPair -/
def PairNo (s : ByteArray) (w : World) (e : Ending) (w' : World) : Prop := ∃ g : Nat, e = .returned (.slice (some ⟨g, 0, none⟩) 1 1) ∧ Below w.heap.size w w'
def PairYes (s : ByteArray) (k : Nat) (w : World) (e : Ending) (w' : World) : Prop :=
  ∃ g : Nat, e = .returned (.slice (some ⟨g, 0, none⟩) 2 2) ∧ w'.cell? ⟨g, 0, none⟩ = some (.string (s.extract 0 k)) ∧ w'.cell? ⟨g, 1, none⟩ = some (.string (s.extract (k + 1) s.size)) ∧ Below w.heap.size w w'
set_option maxRecDepth 100000 in
set_option maxHeartbeats 1000000 in
theorem pair_no (s : ByteArray) (w : World) (hs : s.size ≤ 10000) (h : ∀ i, i < s.size → bx s i ≠ 61) :
    Calls Tryd.prog 60 #[.string s] w (PairNo s w) := by
  have H := Lib.hid h; clear h
  go_enter Tryd.func60, Tryd.ntmps60
  go_wp2
  go_loop [3] (fun i => ∃ k : Nat, k ≤ s.size ∧ i = .int .i64 (k : Nat)) (fun i => s.size - (intOf i).toNat)
  case atStart => exact ⟨0, Nat.zero_le _, rfl⟩
  case round =>
    obtain ⟨k, hk, rfl⟩ := hrel
    by_cases hlt : k < s.size
    · have hb := bx_get s k hlt
      have hq : ((bx s k : Int) == 61) = false := beq_eq_false_iff_ne.mpr (by have := H.out k hlt; omega)
      generalize bx s k = x at hb hq
      go_wp2
      go_round
      case rel => exact ⟨k + 1, by omega, by go_num⟩
      case measure => simp [intOf]; omega
    · go_wp2
      go_ret
      exact ⟨_, rfl, (Below.refl _ _).alloc (Nat.le_refl _) _⟩
set_option maxRecDepth 100000 in
set_option maxHeartbeats 1000000 in
theorem pair_yes (s : ByteArray) (m : Nat) (w : World) (hs : s.size ≤ 10000) (hm : m < s.size) (h : ∀ i, i < m → bx s i ≠ 61) (hat : bx s m = 61) :
    Calls Tryd.prog 60 #[.string s] w (PairYes s m w) := by
  have H := Lib.hid h; clear h
  have HAT := Lib.hid hat; clear hat
  go_enter Tryd.func60, Tryd.ntmps60
  go_wp2
  go_loop [3] (fun i => ∃ k : Nat, k ≤ m ∧ i = .int .i64 (k : Nat)) (fun i => m - (intOf i).toNat)
  case atStart => exact ⟨0, Nat.zero_le _, rfl⟩
  case round =>
    obtain ⟨k, hk, rfl⟩ := hrel
    by_cases hlt : k < m
    · have hb := bx_get s k (by omega)
      have hq : ((bx s k : Int) == 61) = false := beq_eq_false_iff_ne.mpr (by have := H.out k hlt; omega)
      generalize bx s k = x at hb hq
      go_wp2
      go_round
      case rel => exact ⟨k + 1, by omega, by go_num⟩
      case measure => simp [intOf]; omega
    · obtain rfl : k = m := by omega
      have hb := bx_get s k hm
      rw [HAT.out] at hb
      have hle : (k : Int) ≤ s.size := by omega
      have hle1 : (k : Int) + 1 ≤ s.size := by omega
      go_wp2
      go_region
      all_goals
        go_wp2
        go_ret
        exact ⟨_, rfl, World.cell?_alloc_mark w #[Value.string (s.extract 0 k), Value.string (s.extract (k + 1) s.size)] 9 (0, 0) 0, World.cell?_alloc_mark w #[Value.string (s.extract 0 k), Value.string (s.extract (k + 1) s.size)] 9 (0, 0) 1, ((Below.refl _ _).alloc (Nat.le_refl _) _).drew⟩
end Go.Proofs.YteipeagdflcjjaaDoor
/- ParseAttributesLine: the words, and one attribute's round. -/
namespace Go.Proofs.YteipeagdflcjjaaDoor
open Go.RowKit
set_option linter.unusedSimpArgs false
set_option linter.unusedVariables false

/-! ## A line as its fields -/
theorem stepF_plain (l : List Nat) (h : ∀ c ∈ l, isBl c = false) : ∀ D cur, l.foldl stepF (D, some cur) = (D, some (cur ++ l)) := by
  induction l with
  | nil => intro D cur; simp
  | cons a r ih =>
    intro D cur
    rw [List.foldl_cons]
    have : stepF (D, some cur) a = (D, some (cur ++ [a])) := by unfold stepF; rw [if_neg (by rw [h a (by simp)]; decide)]; rfl
    rw [this, ih (fun c hc => h c (by simp [hc]))]
    simp
theorem stepF_word (l : List Nat) (h0 : l ≠ []) (h : ∀ c ∈ l, isBl c = false) (D : List (List Nat)) : l.foldl stepF (D, none) = (D, some l) := by
  cases l with
  | nil => exact absurd rfl h0
  | cons a r =>
    rw [List.foldl_cons]
    have : stepF (D, none) a = (D, some [a]) := by unfold stepF; rw [if_neg (by rw [h a (by simp)]; decide)]; rfl
    rw [this, stepF_plain r (fun c hc => h c (by simp [hc]))]
    rfl
theorem stepF_blanks (l : List Nat) (h : ∀ c ∈ l, isBl c = true) : ∀ D, l.foldl stepF (D, none) = (D, none) := by
  induction l with
  | nil => intro D; rfl
  | cons a r ih =>
    intro D
    rw [List.foldl_cons]
    have : stepF (D, none) a = (D, none) := by unfold stepF; rw [if_pos (h a (by simp))]
    rw [this, ih (fun c hc => h c (by simp [hc]))]
theorem stepF_gap (l : List Nat) (h0 : l ≠ []) (h : ∀ c ∈ l, isBl c = true) (D : List (List Nat)) (cur : List Nat) : l.foldl stepF (D, some cur) = (D ++ [cur], none) := by
  cases l with
  | nil => exact absurd rfl h0
  | cons a r =>
    rw [List.foldl_cons]
    have : stepF (D, some cur) a = (D ++ [cur], none) := by unfold stepF; rw [if_pos (h a (by simp))]
    rw [this, stepF_blanks r (fun c hc => h c (by simp [hc]))]
/-- A line that ends in a field. -/
def LineOf (l : List Nat) (F : List (List Nat)) : Prop := ∃ D cur, runF l = (D, some cur) ∧ F = D ++ [cur]
theorem LineOf.fields {l : List Nat} {F : List (List Nat)} (h : LineOf l F) : fieldsN l = F := by
  obtain ⟨D, cur, h1, h2⟩ := h
  unfold fieldsN
  rw [h1, h2]
theorem LineOf.one {l : List Nat} (h0 : l ≠ []) (h : ∀ c ∈ l, isBl c = false) : LineOf l [l] := ⟨[], l, stepF_word l h0 h [], rfl⟩
theorem LineOf.more {l sp a : List Nat} {F : List (List Nat)} (h : LineOf l F) (hs0 : sp ≠ []) (hs : ∀ c ∈ sp, isBl c = true) (ha0 : a ≠ []) (ha : ∀ c ∈ a, isBl c = false) : LineOf (l ++ (sp ++ a)) (F ++ [a]) := by
  obtain ⟨D, cur, h1, h2⟩ := h
  refine ⟨D ++ [cur], a, ?_, by rw [h2]⟩
  unfold runF at h1 ⊢
  rw [List.foldl_append, List.foldl_append, h1, stepF_gap sp hs0 hs, stepF_word a ha0 ha]

/-! ## One attribute -/
abbrev AttrT := ByteArray × Nat × ByteArray
/-- What the text of an attribute is read as. -/
def ReadAs (t : ByteArray) (a : AttrT) : Prop :=
  1 ≤ t.size ∧ t.size ≤ 1000 ∧ Asc t ∧
  ((∃ m, m < t.size ∧ (∀ i, i < m → bx t i ≠ 61) ∧ bx t m = 61 ∧ bx t 0 ≠ 33 ∧ bx t 0 ≠ 45 ∧ a = (t.extract 0 m, 61, t.extract (m + 1) t.size)) ∨
   ((∀ i, i < t.size → bx t i ≠ 61) ∧ ((bx t 0 = 33 ∨ bx t 0 = 45) ∧ a = (t.extract 1 t.size, bx t 0, ⟨#[]⟩) ∨ (bx t 0 ≠ 33 ∧ bx t 0 ≠ 45 ∧ a = (t, 1, ⟨#[]⟩)))))
def attrAgg (a : AttrT) : Value := .agg #[.string a.1, .int .u8 (a.2.1 : Nat), .string a.2.2]
def attrV (a : AttrT) : Value := .iface 127 (.agg #[.string a.1, .int .u8 (a.2.1 : Nat), .string a.2.2])
theorem attrInfo : (Tryd.prog.info? 92).map (fun i => (i.zero, i.size, i.bytes)) = some (some .nilIface, 1, 16) := by kernel_rfl
theorem attrsKind : Tryd.prog.underlying 85 = some (.slice 92) := by kernel_rfl
/-- The block of a MatchAttribute. -/
def MRow (w : World) (mb : Nat) (nm : ByteArray) (p v : Value) : Prop := w.heap[mb]? = some (.cells #[.string nm, p, v] 87 (0, 0))
def ARow (w : World) (ab : Nat) (a : AttrT) : Prop := w.heap[ab]? = some (.cells #[.string a.1, .int .u8 (a.2.1 : Nat), .string a.2.2] 127 (0, 0))
theorem ARow.cells {w : World} {ab : Nat} {a : AttrT} (h : ARow w ab a) : w.cell? ⟨ab, 0, none⟩ = some (.string a.1) ∧ w.cell? ⟨ab, 1, none⟩ = some (.int .u8 (a.2.1 : Nat)) ∧ w.cell? ⟨ab, 2, none⟩ = some (.string a.2.2) :=
  ⟨by rw [Lib.cell_of_heap h]; rfl, by rw [Lib.cell_of_heap h]; rfl, by rw [Lib.cell_of_heap h]; rfl⟩
theorem ARow.free {w : World} {ab : Nat} {a : AttrT} (h : ARow w ab a) : w.frozen? ⟨ab, 0, none⟩ = false ∧ w.frozen? ⟨ab, 1, none⟩ = false ∧ w.frozen? ⟨ab, 2, none⟩ = false :=
  ⟨Lib.frozen_of_heap h 0, Lib.frozen_of_heap h 1, Lib.frozen_of_heap h 2⟩
theorem ARow.set0 {w : World} {ab : Nat} {a : AttrT} (h : ARow w ab a) (s : ByteArray) : ARow (w.setCell ⟨ab, 0, none⟩ (.string s)) ab (s, a.2.1, a.2.2) := Lib.heap_setCell_same (i := 0) h (.string s)
theorem ARow.set1 {w : World} {ab : Nat} {a : AttrT} (h : ARow w ab a) (x : Nat) : ARow (w.setCell ⟨ab, 1, none⟩ (.int .u8 (x : Nat))) ab (a.1, x, a.2.2) := Lib.heap_setCell_same (i := 1) h (.int .u8 (x : Nat))
theorem ARow.set2 {w : World} {ab : Nat} {a : AttrT} (h : ARow w ab a) (s : ByteArray) : ARow (w.setCell ⟨ab, 2, none⟩ (.string s)) ab (a.1, a.2.1, s) := Lib.heap_setCell_same (i := 2) h (.string s)
theorem ARow.below {w w' : World} {ab B : Nat} {a : AttrT} (h : ARow w ab a) (hb : Below B w w') (hlt : ab < B) : ARow w' ab a := (hb.block ab hlt).trans h
theorem ARow.lt {w : World} {ab : Nat} {a : AttrT} (h : ARow w ab a) : ab < w.heap.size := (Array.getElem?_eq_some_iff.1 h).1
theorem MRow.cells {w : World} {mb : Nat} {nm : ByteArray} {p v : Value} (h : MRow w mb nm p v) : w.cell? ⟨mb, 0, none⟩ = some (.string nm) ∧ w.cell? ⟨mb, 1, none⟩ = some p ∧ w.cell? ⟨mb, 2, none⟩ = some v :=
  ⟨by rw [Lib.cell_of_heap h]; rfl, by rw [Lib.cell_of_heap h]; rfl, by rw [Lib.cell_of_heap h]; rfl⟩
theorem MRow.free {w : World} {mb : Nat} {nm : ByteArray} {p v : Value} (h : MRow w mb nm p v) : w.frozen? ⟨mb, 0, none⟩ = false ∧ w.frozen? ⟨mb, 1, none⟩ = false ∧ w.frozen? ⟨mb, 2, none⟩ = false :=
  ⟨Lib.frozen_of_heap h 0, Lib.frozen_of_heap h 1, Lib.frozen_of_heap h 2⟩
theorem MRow.lt {w : World} {mb : Nat} {nm : ByteArray} {p v : Value} (h : MRow w mb nm p v) : mb < w.heap.size := (Array.getElem?_eq_some_iff.1 h).1
theorem MRow.set0 {w : World} {mb : Nat} {nm : ByteArray} {p v : Value} (h : MRow w mb nm p v) (s : ByteArray) : MRow (w.setCell ⟨mb, 0, none⟩ (.string s)) mb s p v := Lib.heap_setCell_same (i := 0) h _
theorem MRow.set1 {w : World} {mb : Nat} {nm : ByteArray} {p v : Value} (h : MRow w mb nm p v) (u : Value) : MRow (w.setCell ⟨mb, 1, none⟩ u) mb nm u v := Lib.heap_setCell_same (i := 1) h _
theorem MRow.set2 {w : World} {mb : Nat} {nm : ByteArray} {p v : Value} (h : MRow w mb nm p v) (u : Value) : MRow (w.setCell ⟨mb, 2, none⟩ u) mb nm p u := Lib.heap_setCell_same (i := 2) h _
theorem MRow.below {w w' : World} {mb B : Nat} {nm : ByteArray} {p v : Value} (h : MRow w mb nm p v) (hb : Below B w w') (hlt : mb < B) : MRow w' mb nm p v := (hb.block mb hlt).trans h
theorem ownsRow_belowG {w w1 : World} {B : Nat} {e : TypeId} {v : Value} {k : Nat} {xs : List Value} (h : w.ownsRow B e 1 v k xs) (hb : Below w.heap.size w w1) : w1.ownsRow B e 1 v k xs := by
  refine ⟨h.1, ?_⟩
  rcases h.2 with hn | ⟨g, cap, cur, rfl, hbg, hgg, rest⟩
  · exact .inl hn
  · exact .inr ⟨g, cap, cur, rfl, hbg, by rw [hb.block g (Array.getElem?_eq_some_iff.1 hgg).1]; exact hgg, rest⟩
theorem ownsRow_baseG {w : World} {B B' : Nat} {e : TypeId} {v : Value} {k : Nat} {xs : List Value} (h : w.ownsRow B e 1 v k xs) (hB : B' ≤ B) : w.ownsRow B' e 1 v k xs := by
  refine ⟨h.1, ?_⟩
  rcases h.2 with hn | ⟨g, cap, cur, rfl, hbg, rest⟩
  · exact .inl hn
  · exact .inr ⟨g, cap, cur, rfl, Nat.le_trans hB hbg, rest⟩
end Go.Proofs.YteipeagdflcjjaaDoor
/- gitattributes: ParsePattern, checkMacro where no macro stands. -/
namespace Go.Proofs.YteipeagdflcjjaaDoor
open Go.RowKit
set_option linter.unusedSimpArgs false
set_option linter.unusedVariables false

theorem Own.cap {w : World} {B n c : Nat} {A : Option Addr} {L : List ByteArray} (h : Own w B (.slice A n c) L) : n ≤ c ∧ c ≤ maxLen := by
  rcases h.2 with ⟨he, h0⟩ | ⟨g, cap, cur, he, _, _, h1, h2, _⟩
  · injection he with e1 e2 e3
    subst e2 e3
    exact ⟨Nat.le_refl _, Nat.zero_le _⟩
  · injection he with e1 e2 e3
    subst e2 e3
    exact ⟨h1, h2⟩
/-- A pattern's object. -/
def PatO (w : World) (B pb : Nat) (dv : Value) (L : List (List Nat)) : Prop :=
  ∃ (A : Option Addr) (c : Nat) (PL : List ByteArray), w.heap[pb]? = some (.cells #[dv, .slice A PL.length c] 154 (0, 0)) ∧ PL.map nb = L ∧ (PL.length ≤ c ∧ c ≤ maxLen) ∧ Strs w A PL.length (fun i => PL.getD i ⟨#[]⟩) ∧ (∀ b o sp, A = some ⟨b, o, sp⟩ → B ≤ b) ∧ B ≤ pb
theorem PatO.set {w : World} {B pb mb i : Nat} {dv : Value} {L : List (List Nat)} (h : PatO w B pb dv L) (hm : mb < B) (u : Value) : PatO (w.setCell ⟨mb, i, none⟩ u) B pb dv L := by
  obtain ⟨A, c, PL, h1, h2, h3, h4, h5, h6⟩ := h
  refine ⟨A, c, PL, by rw [Below.heap_setCell _ _ _ _ (show pb ≠ mb by omega)]; exact h1, h2, h3, fun i hi => ?_, h5, h6⟩
  obtain ⟨b, off, e, hl, hc⟩ := h4 i hi
  refine ⟨b, off, e, by rw [size_setCell]; exact hl, ?_⟩
  have := h5 _ _ _ e
  rw [World.cell?_setCell_other _ _ _ _ (fun e => by have := congrArg Addr.block e; dsimp only at this; omega)]
  exact hc
theorem PatO.below {w w' : World} {B pb : Nat} {dv : Value} {L : List (List Nat)} (h : PatO w B pb dv L) (hb : Below w.heap.size w w') : PatO w' B pb dv L := by
  obtain ⟨A, c, PL, h1, h2, h3, h4, h5⟩ := h
  exact ⟨A, c, PL, (hb.block pb (Array.getElem?_eq_some_iff.1 h1).1).trans h1, h2, h3, h4.below hb, h5⟩
theorem PatO.mono {w : World} {B B' pb : Nat} {dv : Value} {L : List (List Nat)} (h : PatO w B pb dv L) (hB : B' ≤ B) : PatO w B' pb dv L := by
  obtain ⟨A, c, PL, h1, h2, h3, h4, h5, h6⟩ := h
  exact ⟨A, c, PL, h1, h2, h3, h4, fun b o sp e => Nat.le_trans hB (h5 b o sp e), Nat.le_trans hB h6⟩
def PatPost (dv : Value) (L : List (List Nat)) (w : World) (e : Ending) (w' : World) : Prop :=
  ∃ pb : Nat, e = .returned (.iface 152 (.pointer (some ⟨pb, 0, none⟩))) ∧ w.heap.size ≤ pb ∧ pb < w'.heap.size ∧ PatO w' w.heap.size pb dv L ∧ Below w.heap.size w w'
set_option maxRecDepth 100000 in
set_option maxHeartbeats 1000000 in
theorem atParse_any (nm : ByteArray) (dA : Option Addr) (dn dc : Nat) (w : World) (hs : nm.size ≤ 10000) :
    Calls Tryd.prog 62 #[.string nm, .slice dA dn dc] w (PatPost (.slice dA dn dc) (splitN (nb nm)) w) := by
  go_enter Tryd.func62, Tryd.ntmps62
  go_wp2_with fail
  with_reducible refine (Ga.zzSplit_any nm w hs).mono ?_
  rintro e w1 ⟨v, L, rfl, hown, hL, hb⟩
  have HOWN := Lib.hid hown; have HL := Lib.hid hL; have HB := Lib.hid hb
  obtain ⟨A, c, hv, hm, _⟩ := hown.strs
  subst hv
  have HM := Lib.hid hm
  clear hown hL hb hm
  go_wp2
  go_ret
  refine ⟨w1.heap.size, rfl, HB.out.size, by rw [heap_new_size]; omega, ?_, HB.out.alloc HB.out.size _⟩
  obtain ⟨A2, c2, hv2, hm, hst⟩ := HOWN.out.strs
  cases hv2
  refine ⟨A, c, L, heap_new w1 _, HL.out, HOWN.out.cap, hst.below ((Below.refl _ _).alloc (Nat.le_refl _) _), fun b o sp e => ?_, HB.out.size⟩
  subst e
  exact (HOWN.out.lt b rfl).1

def macroP : ByteArray := ⟨#[91, 97, 116, 116, 114, 93]⟩
set_option maxHeartbeats 1000000 in
theorem checkMacro_no (nm : ByteArray) (b : Bool) (w : World) (hs : nm.size ≤ 10000) (h : pre nm ⟨#[91, 97, 116, 116, 114, 93]⟩ = false) :
    Calls Tryd.prog 59 #[.string nm, .bool b] w fun e w' => e = .returned (.tuple #[.bool false, .string nm, .nilIface]) ∧ w = w' := by
  have H := Lib.hid h; clear h
  go_enter Tryd.func59, Tryd.ntmps59
  go_wp2_with fail
  with_reducible refine (hasPrefix_any nm _ w (by unfold maxLen; omega) (by unfold maxLen; decide)).mono ?_
  rintro e w' ⟨rfl, rfl⟩
  rw [H.out]
  go_wp2
  go_ret3
  exact ⟨rfl, rfl⟩
end Go.Proofs.YteipeagdflcjjaaDoor
