/- The small functions of gitattributes' lines: zzTrim, unquote, zzFields, validAttributeName, zzPair. -/
import Derived.Test.YteipeagdflcjjaaDoorGaSearch
import Derived.Test.YteipeagdflcjjaaDoorOwn
import Derived.Deep.RegionLaw
namespace Go.Proofs.YteipeagdflcjjaaDoor
open Go.RowKit
set_option linter.unusedSimpArgs false
set_option linter.unusedVariables false

set_option maxRecDepth 100000 in
set_option maxHeartbeats 1000000 in
theorem atTrim_any (b n c x y : Nat) (w : World) (h1 : 1 ≤ n) (hn : n ≤ 100000) (hx : 33 ≤ x) (hy : 33 ≤ y) (cx : w.cell? ⟨b, 0, none⟩ = some (.int .u8 (x : Nat))) (cy : w.cell? ⟨b, n - 1, none⟩ = some (.int .u8 (y : Nat))) :
    Calls Tryd.prog 55 #[.slice (some ⟨b, 0, none⟩) n c] w fun e w' => e = .returned (.slice (some ⟨b, 0, none⟩) n c) ∧ w = w' := by
  have a1 : ((x : Int) == 32) = false := beq_eq_false_iff_ne.mpr (by omega)
  have a2 : (9 : Int) ≤ x := by omega
  have a3 : ¬ (x : Int) ≤ 13 := by omega
  have b1 : ((y : Int) == 32) = false := beq_eq_false_iff_ne.mpr (by omega)
  have b2 : (9 : Int) ≤ y := by omega
  have b3 : ¬ (y : Int) ≤ 13 := by omega
  have hp : (0 : Int) < n := by omega
  obtain ⟨m, rfl⟩ : ∃ m, n = m + 1 := ⟨n - 1, by omega⟩
  rw [Nat.add_sub_cancel] at cy
  clear hx hy
  go_enter Tryd.func55, Tryd.ntmps55
  go_wp2
  go_loop [0] (fun i => i = .slice (some ⟨b, 0, none⟩) (m + 1) c) (fun i => 0)
  case atStart => rfl
  case round =>
    obtain rfl := hrel
    go_wp2
    go_loop [0] (fun i => i = .slice (some ⟨b, 0, none⟩) (m + 1) c) (fun i => 0)
    case atStart => rfl
    case round =>
      obtain rfl := hrel
      go_wp2
      go_ret
      exact ⟨rfl, rfl⟩
set_option maxRecDepth 100000 in
set_option maxHeartbeats 1000000 in
theorem atTrim_nil (A : Option Addr) (c : Nat) (w : World) :
    Calls Tryd.prog 55 #[.slice A 0 c] w fun e w' => e = .returned (.slice A 0 c) ∧ w = w' := by
  go_enter Tryd.func55, Tryd.ntmps55
  go_wp2
  go_loop [0] (fun i => i = .slice A 0 c) (fun i => 0)
  case atStart => rfl
  case round =>
    obtain rfl := hrel
    go_wp2
    go_loop [0] (fun i => i = .slice A 0 c) (fun i => 0)
    case atStart => rfl
    case round =>
      obtain rfl := hrel
      go_wp2
      go_ret
      exact ⟨rfl, rfl⟩

set_option maxHeartbeats 1000000 in
theorem unquote_any (s : ByteArray) (w : World) (h1 : 1 ≤ s.size) (h : bx s 0 ≠ 34) :
    Calls Tryd.prog 57 #[.string s] w fun e w' => e = .returned (.tuple #[.string ⟨#[]⟩, .string s]) ∧ w = w' := by
  have hb := bx_get s 0 (by omega)
  have hl : (0 : Int) < s.size := by omega
  generalize bx s 0 = x at hb h
  have q : ((x : Int) == 34) = false := beq_eq_false_iff_ne.mpr (by omega)
  clear h
  go_enter Tryd.func57, Tryd.ntmps57
  go_wp2
  go_ret2
  exact ⟨rfl, rfl⟩

/-! ## Fields -/
def isBl (c : Nat) : Bool := decide (c = 32 ∨ (9 ≤ c ∧ c ≤ 13))
def stepF (st : List (List Nat) × Option (List Nat)) (c : Nat) : List (List Nat) × Option (List Nat) :=
  if isBl c = true then (match st.2 with
    | some cur => (st.1 ++ [cur], none)
    | none => (st.1, none)) else (st.1, some (st.2.getD [] ++ [c]))
def runF (l : List Nat) : List (List Nat) × Option (List Nat) := l.foldl stepF ([], none)
def fieldsN (l : List Nat) : List (List Nat) := (runF l).1 ++ (match (runF l).2 with
  | some cur => [cur]
  | none => [])
theorem runF_snoc (l : List Nat) (c : Nat) : runF (l ++ [c]) = stepF (runF l) c := by unfold runF; rw [List.foldl_append]; rfl
/-- What has been parted ahead of place k. -/
structure FldIn (s : ByteArray) (st : Int) (k : Nat) (L : List ByteArray) : Prop where
  top : k ≤ s.size
  len : L.length ≤ k
  run : (st = -1 ∧ runF ((nb s).take k) = (L.map nb, none)) ∨ (∃ x : Nat, st = (x : Nat) ∧ x < k ∧ runF ((nb s).take k) = (L.map nb, some (nb (s.extract x k))))
theorem FldIn.start (s : ByteArray) : FldIn s (-1) 0 [] := ⟨Nat.zero_le _, Nat.le_refl _, .inl ⟨rfl, rfl⟩⟩
theorem FldIn.flush {s : ByteArray} {x k : Nat} {L : List ByteArray} (h : FldIn s (x : Nat) k L) (hk : k < s.size) (hb : isBl (bx s k) = true) : FldIn s (-1) (k + 1) (L ++ [s.extract x k]) := by
  refine ⟨by omega, by rw [List.length_append]; have := h.len; simp; omega, .inl ⟨rfl, ?_⟩⟩
  rcases h.run with ⟨h1, _⟩ | ⟨y, h1, _, h2⟩
  · omega
  · obtain rfl : x = y := by omega
    rw [take_next s k hk, runF_snoc, h2]
    unfold stepF
    rw [if_pos hb, List.map_append]
    rfl
theorem FldIn.skip {s : ByteArray} {k : Nat} {L : List ByteArray} (h : FldIn s (-1) k L) (hk : k < s.size) (hb : isBl (bx s k) = true) : FldIn s (-1) (k + 1) L := by
  refine ⟨by omega, by have := h.len; omega, .inl ⟨rfl, ?_⟩⟩
  rcases h.run with ⟨_, h2⟩ | ⟨y, h1, _⟩
  · rw [take_next s k hk, runF_snoc, h2]
    unfold stepF
    rw [if_pos hb]
  · omega
theorem FldIn.begin {s : ByteArray} {k : Nat} {L : List ByteArray} (h : FldIn s (-1) k L) (hk : k < s.size) (hb : isBl (bx s k) = false) : FldIn s (k : Nat) (k + 1) L := by
  refine ⟨by omega, by have := h.len; omega, .inr ⟨k, rfl, by omega, ?_⟩⟩
  rcases h.run with ⟨_, h2⟩ | ⟨y, h1, _⟩
  · rw [take_next s k hk, runF_snoc, h2]
    unfold stepF
    rw [if_neg (by rw [hb]; decide)]
    congr 2
    rw [nb_extract, show k + 1 - k = 0 + 1 by omega, drop_bx' s k hk]
    rfl
  · omega
theorem FldIn.go {s : ByteArray} {x k : Nat} {L : List ByteArray} (h : FldIn s (x : Nat) k L) (hk : k < s.size) (hb : isBl (bx s k) = false) : FldIn s (x : Nat) (k + 1) L := by
  rcases h.run with ⟨h1, _⟩ | ⟨y, h1, hy, h2⟩
  · omega
  · obtain rfl : x = y := by omega
    refine ⟨by omega, by have := h.len; omega, .inr ⟨x, rfl, by omega, ?_⟩⟩
    rw [take_next s k hk, runF_snoc, h2]
    unfold stepF
    rw [if_neg (by rw [hb]; decide)]
    congr 2
    show nb (s.extract x k) ++ [bx s k] = _
    rw [nb_extract, nb_extract, show k + 1 - x = (k - x) + 1 by omega, List.take_succ_eq_append_getElem (by rw [List.length_drop, nb_length]; omega), List.getElem_drop]
    congr 2
    rw [bx_getElem]
    congr 1; omega
theorem FldIn.fin {s : ByteArray} {st : Int} {L : List ByteArray} (h : FldIn s st s.size L) : (st = -1 ∧ L.map nb = fieldsN (nb s)) ∨ (∃ x : Nat, st = (x : Nat) ∧ x < s.size ∧ (L ++ [s.extract x s.size]).map nb = fieldsN (nb s)) := by
  have ht : (nb s).take s.size = nb s := List.take_of_length_le (by rw [nb_length]; omega)
  rcases h.run with ⟨h1, h2⟩ | ⟨x, h1, hx, h2⟩
  · rw [ht] at h2
    exact .inl ⟨h1, by unfold fieldsN; rw [h2]; simp⟩
  · rw [ht] at h2
    exact .inr ⟨x, h1, hx, by unfold fieldsN; rw [h2, List.map_append]; rfl⟩
def FieldsPost (s : ByteArray) (w : World) (e : Ending) (w' : World) : Prop :=
  ∃ v L, e = .returned v ∧ Own w' w.heap.size v L ∧ L.map nb = fieldsN (nb s) ∧ Below w.heap.size w w'

set_option maxRecDepth 100000 in
set_option maxHeartbeats 4000000 in
theorem zzFields_any (s : ByteArray) (w : World) (hs : s.size ≤ 10000) :
    Calls Tryd.prog 58 #[.string s] w (FieldsPost s w) := by
  obtain ⟨i0, hi, hz0, hz1, hz2⟩ := info_parts strInfo
  go_enter Tryd.func58, Tryd.ntmps58
  go_wp2
  go_loopw [3, 4, 5] (fun l a i wr => ∃ (st : Int) (k : Nat) (L : List ByteArray), a = .int .i64 st ∧ i = .int .i64 (k : Nat) ∧ Own wr w.heap.size l L ∧ Below w.heap.size w wr ∧ L.length ≤ k ∧ ((k ≤ s.size ∧ FldIn s st k L) ∨ (k = s.size + 1 ∧ L.map nb = fieldsN (nb s)))) (fun _ _ i _ => s.size + 1 - (intOf i).toNat)
  case atStart => exact ⟨-1, 0, [], rfl, rfl, Own.nil _ _, Below.refl _ _, Nat.le_refl _, .inl ⟨Nat.zero_le _, FldIn.start s⟩⟩
  case round =>
    obtain ⟨st, k, L, rfl, rfl, hown, hbel, hlen, hst⟩ := hrel
    have HOWN := Lib.hid hown
    have HB := Lib.hid hbel
    clear hown hbel
    rcases hst with ⟨hk, hst⟩ | ⟨hk, hst⟩
    · have HST := Lib.hid hst
      clear hst
      have hle : (k : Int) ≤ s.size := by omega
      obtain ⟨B, hB⟩ : ∃ B : Bool, B = (decide (k = s.size) || isBl (bx s k)) := ⟨_, rfl⟩
      have HBB := Lib.hid hB
      clear hB
      go_upto_region 6 with (fail)
      go_cut [6] (fun v wx => v = .bool B ∧ wr = wx)
      case first =>
        by_cases hlt : k < s.size
        · have hb := bx_get s k hlt
          have hq : ((k : Int) == (s.size : Int)) = false := beq_eq_false_iff_ne.mpr (by omega)
          have HBL : Hid (B = isBl (bx s k)) := Lib.hid (by rw [HBB.out, decide_eq_false (by omega), Bool.false_or])
          clear HBB
          generalize bx s k = y at hb HBL
          by_cases h32 : y = 32
          · have HN : Hid (B = true) := Lib.hid (by rw [HBL.out]; subst h32; rfl)
            subst h32
            clear HBL
            go_wp2
            go_meet
            case rel => exact ⟨by rw [HN.out], rfl⟩
          · have q1 : ((y : Int) == 32) = false := beq_eq_false_iff_ne.mpr (by omega)
            by_cases h9 : 9 ≤ y
            · have q2 : (9 : Int) ≤ y := by omega
              by_cases h13 : y ≤ 13
              · have q3 : (y : Int) ≤ 13 := by omega
                have HN : Hid (B = true) := Lib.hid (by rw [HBL.out]; unfold isBl; rw [decide_eq_true_iff]; exact .inr ⟨h9, h13⟩)
                clear HBL
                go_wp2
                go_meet
                case rel => exact ⟨by rw [HN.out], rfl⟩
              · have q3 : ¬ (y : Int) ≤ 13 := by omega
                have HN : Hid (B = false) := Lib.hid (by rw [HBL.out]; unfold isBl; rw [decide_eq_false_iff_not]; omega)
                clear HBL
                go_wp2
                go_meet
                case rel => exact ⟨by rw [HN.out], rfl⟩
            · have q2 : ¬ (9 : Int) ≤ y := by omega
              have HN : Hid (B = false) := Lib.hid (by rw [HBL.out]; unfold isBl; rw [decide_eq_false_iff_not]; omega)
              clear HBL
              go_wp2
              go_meet
              case rel => exact ⟨by rw [HN.out], rfl⟩
        · obtain rfl : k = s.size := by omega
          have hq : ((s.size : Int) == (s.size : Int)) = true := beq_self_eq_true _
          have HN : Hid (B = true) := Lib.hid (by rw [HBB.out, decide_eq_true rfl, Bool.true_or])
          clear HBB
          go_wp2
          go_meet
          case rel => exact ⟨by rw [HN.out], rfl⟩
      case rest =>
        obtain ⟨rfl, rfl⟩ := hcut
        rcases HST.out.run with ⟨hst1, _⟩ | ⟨x, hst1, hxk, _⟩
        · subst hst1
          cases B with
          | true =>
            by_cases hlt : k < s.size
            · have HN := Lib.hid (HST.out.skip hlt (by have := HBB.out; rwa [decide_eq_false (by omega), Bool.false_or, eq_comm] at this))
              go_wp2
              go_roundw
              case rel => exact ⟨-1, k + 1, L, rfl, by go_num, HOWN.out, HB.out, by omega, .inl ⟨by omega, HN.out⟩⟩
              case measure => simp [intOf]; omega
            · obtain rfl : k = s.size := by omega
              have HF : Hid (L.map nb = fieldsN (nb s)) := Lib.hid (by
                rcases HST.out.fin with ⟨_, h⟩ | ⟨x, h, _⟩
                · exact h
                · omega)
              go_wp2
              go_roundw
              case rel => exact ⟨-1, s.size + 1, L, rfl, by go_num, HOWN.out, HB.out, by omega, .inr ⟨rfl, HF.out⟩⟩
              case measure => simp [intOf]
          | false =>
            have hlt : k < s.size := by
              by_cases h : k = s.size
              · have := HBB.out; rw [decide_eq_true h] at this; cases this
              · omega
            have HN := Lib.hid (HST.out.begin hlt (by have := HBB.out; rwa [decide_eq_false (by omega), Bool.false_or, eq_comm] at this))
            go_wp2
            go_roundw
            case rel => exact ⟨(k : Nat), k + 1, L, rfl, by go_num, HOWN.out, HB.out, by omega, .inl ⟨by omega, HN.out⟩⟩
            case measure => simp [intOf]; omega
        · subst hst1
          have hx0 : (0 : Int) ≤ x := by omega
          have hxk2 : (x : Int) ≤ k := by omega
          cases B with
          | true =>
            have hL : Hid ((k < s.size ∧ FldIn s (-1) (k + 1) (L ++ [s.extract x k])) ∨ (k = s.size ∧ (L ++ [s.extract x k]).map nb = fieldsN (nb s))) := Lib.hid (by
              by_cases hlt : k < s.size
              · exact .inl ⟨hlt, HST.out.flush hlt (by have := HBB.out; rwa [decide_eq_false (by omega), Bool.false_or, eq_comm] at this)⟩
              · obtain rfl : k = s.size := by omega
                refine .inr ⟨rfl, ?_⟩
                rcases HST.out.fin with ⟨h, _⟩ | ⟨x2, h, _, h2⟩
                · omega
                · obtain rfl : x = x2 := by omega
                  exact h2)
            go_upto_region 8 with (fail)
            go_wp2_with (at_builtin; refine wpList_append_lies _ rfl (.tmp 40) (.tmp 45) 23 rfl w.heap.size 9 i0 (.string ⟨#[]⟩) 1 16 strsKind hi hz0 hz1 hz2 rfl (by decide) _ _ _ rfl (World.ownsRow.alloc HOWN.out _) ⟨wr.heap.size, 0, none⟩ 1 1 [.string (s.extract x k)] rfl rfl (news_str _ _) (one_str _) (by decide) ?c3 ?c4 ?c5 _ rfl ?_)
            case c3 => unfold maxLen; omega
            case c4 => omega
            case c5 => have := HB.out.size; first | omega | (rw [heap_new_size]; omega)
            intro gg cap2 w4 hown4 hgrow _ _
            have R := Lib.hid (Own.more hown4)
            have RB := Lib.hid ((HB.out.alloc HB.out.size _).grown hgrow (by have := HB.out.size; rw [heap_new_size]; omega) (fun q e => (HOWN.out.lt q e).1))
            clear hown4 hgrow
            go_wp2
            go_roundw
            case rel =>
              refine ⟨-1, k + 1, _, rfl, by go_num, R.out, RB.out, by rw [List.length_append]; simp; omega, ?_⟩
              rcases hL.out with ⟨h1, h2⟩ | ⟨h1, h2⟩
              · exact .inl ⟨by omega, h2⟩
              · exact .inr ⟨by omega, h2⟩
            case measure => simp [intOf]; omega
          | false =>
            have hlt : k < s.size := by
              by_cases h : k = s.size
              · have := HBB.out; rw [decide_eq_true h] at this; cases this
              · omega
            have HN := Lib.hid (HST.out.go hlt (by have := HBB.out; rwa [decide_eq_false (by omega), Bool.false_or, eq_comm] at this))
            go_wp2
            go_roundw
            case rel => exact ⟨(x : Nat), k + 1, L, rfl, by go_num, HOWN.out, HB.out, by omega, .inl ⟨by omega, HN.out⟩⟩
            case measure => simp [intOf]; omega
    · have hk' : ¬ (k : Int) ≤ s.size := by omega
      have HF := Lib.hid hst
      clear hst hk
      go_wp2
      go_ret
      exact ⟨_, L, rfl, HOWN.out, HF.out, HB.out⟩
end Go.Proofs.YteipeagdflcjjaaDoor
