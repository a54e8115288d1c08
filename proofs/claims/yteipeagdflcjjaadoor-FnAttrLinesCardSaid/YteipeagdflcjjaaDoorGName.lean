/- The reference's GlobName: a name matches a pattern of signs, as gn says. -/
import Derived.Test.YteipeagdflcjjaaDoorGn
import Derived.Test.YteipeagdflcjjaaDoorChunk
import Derived.Deep.QuietTactic
import Derived.BigQuiet
namespace Go.Proofs.YteipeagdflcjjaaDoor
open Go.RowKit
set_option linter.unusedSimpArgs false
set_option linter.unusedVariables false

def hasR (t : Tok) (c : Nat) : Bool := match t with
  | .any => true
  | t => t.has c
theorem gn_congr {P Q : Tok → Nat → Bool} (T : List Tok) : ∀ s, (∀ c ∈ s, ∀ t ∈ T, P t c = Q t c) → gn P T s = gn Q T s := by
  induction T with
  | nil => intro s _; rfl
  | cons t r ih =>
    intro s h
    have hs : ∀ k, gn P r (s.drop k) = gn Q r (s.drop k) := fun k => ih _ fun c hc x hx => h c (List.mem_of_mem_drop hc) x (by simp [hx])
    unfold gn
    by_cases ht : t.isStar = true
    · rw [if_pos ht, if_pos ht, Bool.eq_iff_iff, anySfx_iff, anySfx_iff]
      exact ⟨fun ⟨k, hk⟩ => ⟨k, by rw [← hs]; exact hk⟩, fun ⟨k, hk⟩ => ⟨k, by rw [hs]; exact hk⟩⟩
    · rw [if_neg ht, if_neg ht]
      cases s with
      | nil => rfl
      | cons c s =>
        dsimp only
        have := hs 1
        rw [List.drop_one, List.tail_cons] at this
        rw [this, h c (by simp) t (by simp)]
theorem gn_hasR (T : List Tok) (s : List Nat) (h : ∀ c ∈ s, c ≠ 47) : gn hasP T s = gn hasR T s := gn_congr T s fun c hc t _ => by
  cases t <;> try rfl
  show (c != 47) = true
  have := h c hc
  simp [this]
theorem gn_nil_text (s : List Nat) (P : Tok → Nat → Bool) : gn P [] s = s.isEmpty := rfl
theorem gn_star (P : Tok → Nat → Bool) (r : List Tok) (s : List Nat) : gn P (.star :: r) s = (gn P r s || match s with
    | [] => false
    | _ :: s' => gn P (.star :: r) s') := by
  have e : gn P (.star :: r) = anySfx (gn P r) := by
    funext x
    conv => lhs; unfold gn
    rw [if_pos (show Tok.star.isStar = true from rfl)]
  cases s with
  | nil => rw [e]; show gn P r [] = _; rw [Bool.or_false]
  | cons c s =>
    rw [e]
    rfl
theorem gn_one (P : Tok → Nat → Bool) (t : Tok) (r : List Tok) (ht : t.isStar = false) (s : List Nat) : gn P (t :: r) s = match s with
    | [] => false
    | c :: s' => P t c && gn P r s' := by
  conv => lhs; unfold gn
  rw [if_neg (by rw [ht]; decide)]
  cases s <;> rfl

set_option maxHeartbeats 1000000 in
theorem globEnd_any (pb : ByteArray) (m : Nat) (w : World) (hs : pb.size ≤ 1000) (h2 : 2 ≤ m) (hm : m < pb.size) (hat : bx pb m = 93) (hno : ∀ j, 2 ≤ j → j < m → bx pb j ≠ 93) :
    Calls Tryd.prog 33 #[.string pb] w fun e w' => e = .returned (.int .i64 (m : Nat)) ∧ w = w' := by
  have HA := Lib.hid hat; have HN := Lib.hid hno
  clear hat hno
  go_enter Tryd.func33, Tryd.ntmps33
  go_wp2
  go_loop [3] (fun i => ∃ k : Nat, 2 ≤ k ∧ k ≤ m ∧ i = .int .i64 k) (fun i => m - (intOf i).toNat)
  case atStart => exact ⟨2, by omega, h2, rfl⟩
  case round =>
    obtain ⟨k, hk2, hkm, rfl⟩ := hrel
    have hb := bx_get pb k (by omega)
    by_cases e : k = m
    · subst e
      rw [HA.out] at hb
      go_wp2
      go_ret
      exact ⟨rfl, rfl⟩
    · have q : ((bx pb k : Int) == 93) = false := beq_eq_false_iff_ne.mpr (by have := HN.out k hk2 (by omega); omega)
      go_wp2
      go_round
      case rel => exact ⟨k + 1, by omega, by omega, by go_num⟩
      case measure => simp [intOf]; omega

theorem any_snoc (p : Nat × Option Nat → Bool) (A : List (Nat × Option Nat)) (x : Nat × Option Nat) : (A ++ [x]).any p = (A.any p || p x) := by simp
theorem items_at {sb : ByteArray} {A B : List (Nat × Option Nat)} {x : Nat × Option Nat} (h : nb sb = itemsText (A ++ x :: B)) :
    bx sb (itemsText A).length = x.1 ∧ (itemsText A).length < sb.size ∧
    (∀ hi, x.2 = some hi → bx sb ((itemsText A).length + 1) = 45 ∧ bx sb ((itemsText A).length + 2) = hi ∧ (itemsText A).length + 2 < sb.size) ∧
    (x.2 = none → (itemsText A).length + 2 < sb.size → (∀ i ∈ B, goodItem i) → bx sb ((itemsText A).length + 1) ≠ 45) := by
  have e : nb sb = itemsText A ++ (itemText x ++ itemsText B) := by rw [h, itemsText_append]; rfl
  have hg : ∀ j, bx sb ((itemsText A).length + j) = (itemText x ++ itemsText B).getD j 0 := fun j => by
    unfold bx
    rw [e, List.getD_eq_getElem?_getD, List.getElem?_append_right (by omega), List.getD_eq_getElem?_getD]
    congr 2; omega
  have hl : sb.size = (itemsText A).length + ((itemText x).length + (itemsText B).length) := by rw [← nb_length, e, List.length_append, List.length_append]
  obtain ⟨lo, hi⟩ := x
  have h0 := hg 0
  rw [Nat.add_zero] at h0
  cases hi with
  | none =>
    refine ⟨h0, by rw [hl]; simp [itemText]; omega, (fun hi e => by cases e), fun _ hlt hB => ?_⟩
    rw [hg 1]
    have hB1 : 1 ≤ (itemsText B).length := by rw [hl] at hlt; simp [itemText] at hlt; omega
    cases B with
    | nil => simp [itemsText] at hB1
    | cons i B =>
      have := (hB i (by simp)).1
      unfold letter at this
      show ([lo] ++ itemsText (i :: B)).getD 1 0 ≠ 45
      have e2 : ([lo] ++ itemsText (i :: B)).getD 1 0 = i.1 := by
        obtain ⟨a, b⟩ := i
        cases b <;> rfl
      rw [e2]; omega
  | some x =>
    refine ⟨h0, by rw [hl]; simp [itemText]; omega, fun hi e => ?_, fun e => by cases e⟩
    cases e
    exact ⟨hg 1, hg 2, by rw [hl]; simp [itemText]; omega⟩

set_option maxRecDepth 100000 in
set_option maxHeartbeats 4000000 in
theorem globSet_any (sb : ByteArray) (neg : Bool) (items : List (Nat × Option Nat)) (c : Nat) (w : World) (hs : sb.size ≤ 1000) (h0 : items ≠ []) (hg : ∀ i ∈ items, goodItem i) (ht : nb sb = negText neg ++ itemsText items) :
    Calls Tryd.prog 34 #[.string sb, .int .u8 (c : Nat)] w fun e w' => e = .returned (.bool (items.any (hasItem c) != neg)) ∧ w = w' := by
  have HG := Lib.hid hg; have HT := Lib.hid ht; have H0 := Lib.hid h0
  have hfirst : ∃ d m, nb sb = d :: m ∧ (d == 94) = neg := by
    cases neg with
    | true => exact ⟨94, itemsText items, ht, rfl⟩
    | false =>
      obtain ⟨d, m, e, h1, h2⟩ := items_first items h0 hg []
      rw [List.append_nil] at e
      exact ⟨d, m, ht.trans e, by rw [beq_eq_false_iff_ne]; omega⟩
  obtain ⟨d, m, hd, hd2⟩ := hfirst
  have hs1 : 1 ≤ sb.size := by rw [size_of hd]; simp
  have hb := bx_get sb 0 (by omega)
  rw [bx_of hd] at hb
  have hq : ((d : Int) == 94) = neg := by rw [← hd2, Bool.eq_iff_iff, beq_iff_eq, beq_iff_eq]; omega
  clear hg ht h0 hd hd2
  go_enter Tryd.func34, Tryd.ntmps34
  go_upto_if 11 with (fail)
  clear hb hq hs1
  go_cut [0] (fun t wx => ∃ sb' : ByteArray, t = .string sb' ∧ nb sb' = itemsText items ∧ sb'.size ≤ 1000 ∧ w = wx)
  case first =>
    cases neg with
    | true =>
      have ht1 : nb sb = 94 :: itemsText items := HT.out
      have hz : 1 ≤ sb.size := by rw [size_of ht1]; simp
      have HT2 := Lib.hid (tail_text ht1)
      have hts : (sb.extract 1 sb.size).size = sb.size - 1 := size_tail sb 1
      clear ht1
      go_wp2
      go_meet
      case rel => exact ⟨_, rfl, HT2.out, by omega, rfl⟩
    | false =>
      have HT2 : Hid (nb sb = itemsText items) := Lib.hid HT.out
      go_wp2
      go_meet
      case rel => exact ⟨sb, rfl, HT2.out, hs, rfl⟩
  case rest =>
    clear HT hs
    obtain ⟨st, rfl, ht, hs, rfl⟩ := hcut
    have HT := Lib.hid ht; clear ht
    go_wp2
    go_loop [6, 7] (fun b i => ∃ A B, items = A ++ B ∧ b = .bool (A.any (hasItem c)) ∧ i = .int .i64 ((itemsText A).length : Nat)) (fun _ i => st.size - (intOf i).toNat)
    case atStart => exact ⟨[], items, rfl, rfl, rfl⟩
    case round =>
      obtain ⟨A, B, hAB, rfl, rfl⟩ := hrel
      have HAB := Lib.hid hAB; clear hAB
      cases B with
      | nil =>
        have HA : Hid (A = items) := Lib.hid (by rw [HAB.out, List.append_nil])
        have hsz : st.size = (itemsText A).length := by rw [← nb_length, HT.out, HA.out]
        have HSZ := Lib.hid hsz; clear hsz
        generalize hx : A.any (hasItem c) = x
        have HX := Lib.hid hx; clear hx
        have hlt : ¬ ((itemsText A).length : Int) < st.size := by have := HSZ.out; omega
        go_wp2
        go_ret
        refine ⟨?_, rfl⟩
        rw [← HA.out, HX.out]
        show Ending.returned (.bool (!x == neg)) = _
        cases x <;> cases neg <;> rfl
      | cons x B =>
        have hnb : nb st = itemsText (A ++ x :: B) := by rw [HT.out, HAB.out]
        obtain ⟨h1, h2, h3, h4⟩ := items_at hnb
        have HGB : Hid (∀ i ∈ B, goodItem i) := Lib.hid fun i hi => HG.out i (by rw [HAB.out]; simp [hi])
        have H3 := Lib.hid h3; have H4 := Lib.hid h4
        have HAS : Hid (items = (A ++ [x]) ++ B) := Lib.hid (by rw [HAB.out]; simp)
        have hln : (itemsText (A ++ [x])).length = (itemsText A).length + (itemText x).length := by rw [itemsText_append, List.length_append]; simp [itemsText]
        have HLN := Lib.hid hln
        have HAN : Hid ((A ++ [x]).any (hasItem c) = (A.any (hasItem c) || hasItem c x)) := Lib.hid (any_snoc _ _ _)
        generalize hlA : (itemsText A).length = la at *
        have hb0 := bx_get st la h2
        rw [h1] at hb0
        generalize hbA : A.any (hasItem c) = bA at *
        have HBA := Lib.hid hbA; have HLA := Lib.hid hlA
        clear hbA hlA hnb h1 h3 h4 hln
        obtain ⟨lo, hi⟩ := x
        cases hi with
        | some hi =>
          obtain ⟨g1, g2, g3⟩ := H3.out hi rfl
          have hb1 := bx_get st (la + 1) (by omega)
          have hb2 := bx_get st (la + 2) g3
          rw [g1] at hb1
          rw [g2] at hb2
          have hlt : (la : Int) + 2 < st.size := by omega
          clear g1 g2 H3 H4
          have HQ : Hid (hasItem c (lo, some hi) = decide (lo ≤ c ∧ c ≤ hi)) := Lib.hid rfl
          have HL3 : Hid ((itemText (lo, some hi)).length = 3) := Lib.hid rfl
          cases bA with
          | true =>
            go_wp2
            go_round
            case rel => exact ⟨A ++ [(lo, some hi)], B, HAS.out, congrArg Value.bool (by rw [HAN.out]; rfl), congrArg (Value.int .i64) (by have := HLN.out; have := HL3.out; omega)⟩
            case measure => simp [intOf]; omega
          | false =>
            by_cases hlo : lo ≤ c
            · have hlo' : (lo : Int) ≤ c := by omega
              go_wp2
              go_round
              case rel => exact ⟨A ++ [(lo, some hi)], B, HAS.out, congrArg Value.bool (by rw [HAN.out, HQ.out, Bool.false_or, decide_eq_decide]; omega), congrArg (Value.int .i64) (by have := HLN.out; have := HL3.out; omega)⟩
              case measure => simp [intOf]; omega
            · have hlo' : ¬ (lo : Int) ≤ c := by omega
              go_wp2
              go_round
              case rel => exact ⟨A ++ [(lo, some hi)], B, HAS.out, congrArg Value.bool (by rw [HAN.out, HQ.out, Bool.false_or]; symm; rw [decide_eq_false_iff_not]; omega), congrArg (Value.int .i64) (by have := HLN.out; have := HL3.out; omega)⟩
              case measure => simp [intOf]; omega
        | none =>
          have HQ : Hid (hasItem c (lo, none) = decide (lo ≤ c ∧ c ≤ lo)) := Lib.hid rfl
          have HL1 : Hid ((itemText (lo, none)).length = 1) := Lib.hid rfl
          have hx : ∃ b, ((lo : Int) == (c : Int)) = b ∧ decide (lo ≤ c ∧ c ≤ lo) = b := ⟨_, rfl, by rw [Bool.eq_iff_iff, decide_eq_true_eq, beq_iff_eq]; omega⟩
          obtain ⟨b, q1, q2⟩ := hx
          have HQ2 : Hid ((A ++ [(lo, none)]).any (hasItem c) = (bA || b)) := Lib.hid (by rw [HAN.out, HQ.out, q2])
          clear q2
          by_cases hlt : la + 2 < st.size
          · have h45 := H4.out rfl hlt HGB.out
            have hb1 := bx_get st (la + 1) (by omega)
            generalize hxx : bx st (la + 1) = y at hb1 h45
            have HXX := Lib.hid hxx; clear hxx
            have q3 : ((y : Int) == 45) = false := beq_eq_false_iff_ne.mpr (by omega)
            have hlt' : (la : Int) + 2 < st.size := by omega
            clear h45 H3 H4
            cases bA with
            | true =>
              go_wp2
              go_round
              case rel => exact ⟨A ++ [(lo, none)], B, HAS.out, congrArg Value.bool (by rw [HQ2.out]; rfl), congrArg (Value.int .i64) (by have := HLN.out; have := HL1.out; omega)⟩
              case measure => simp [intOf]; omega
            | false =>
              go_wp2
              go_round
              case rel => exact ⟨A ++ [(lo, none)], B, HAS.out, congrArg Value.bool (by rw [HQ2.out]; rfl), congrArg (Value.int .i64) (by have := HLN.out; have := HL1.out; omega)⟩
              case measure => simp [intOf]; omega
          · have hlt' : ¬ (la : Int) + 2 < st.size := by omega
            clear H3 H4
            cases bA with
            | true =>
              go_wp2
              go_round
              case rel => exact ⟨A ++ [(lo, none)], B, HAS.out, congrArg Value.bool (by rw [HQ2.out]; rfl), congrArg (Value.int .i64) (by have := HLN.out; have := HL1.out; omega)⟩
              case measure => simp [intOf]; omega
            | false =>
              go_wp2
              go_round
              case rel => exact ⟨A ++ [(lo, none)], B, HAS.out, congrArg Value.bool (by rw [HQ2.out]; rfl), congrArg (Value.int .i64) (by have := HLN.out; have := HL1.out; omega)⟩
              case measure => simp [intOf]; omega

def Tok.gR : Tok → Prop
  | .star => True
  | .any => True
  | .lit c => c ≠ 42 ∧ c ≠ 63 ∧ c ≠ 91 ∧ c ≠ 92
  | .esc _ => True
  | .set _ items => items ≠ [] ∧ ∀ i ∈ items, goodItem i
theorem good_gR {t : Tok} (h : t.good) : t.gR := by
  cases t with
  | lit c => unfold Tok.good letter at h; unfold Tok.gR; dsimp only at h ⊢; omega
  | set neg items => exact h
  | star => trivial
  | any => trivial
  | esc c => trivial
def QB (b : Bool) (w : World) (e : Ending) (w' : World) : Prop := e = .returned (.bool b) ∧ ∃ m, w' = w.drewN m
theorem QB.same {b : Bool} {w : World} : QB b w (.returned (.bool b)) w := ⟨rfl, 0, rfl⟩
theorem isEmpty_nb (s : ByteArray) : s.toList.isEmpty = (nb s).isEmpty := by
  by_cases h : s.size = 0
  · rw [isEmpty_str s h, nb_nil h]; rfl
  · rw [isEmpty_str_not s h]
    symm
    rw [List.isEmpty_eq_false_iff]
    intro e
    exact h (size_nil e)

set_option maxRecDepth 100000 in
set_option maxHeartbeats 8000000 in
theorem globName_any (n : Nat) : ∀ (T : List Tok) (pb sb : ByteArray) (w : World), pb.size + sb.size < n → nb pb = texts T → (∀ t ∈ T, Tok.gR t) → pb.size ≤ 1000 → sb.size ≤ 1000 →
    Calls Tryd.prog 15 #[.string pb, .string sb] w (QB (gn hasR T (nb sb)) w) := by
  induction n with
  | zero => intro T pb sb w h; omega
  | succ n ih =>
    intro T pb sb w hn hT hg hp hs
    have IH := Lib.hid ih; clear ih
    have HT := Lib.hid hT
    have HG := Lib.hid hg
    cases T with
    | nil =>
      have hz := isEmpty_str pb (size_nil hT)
      have hi := isEmpty_nb sb
      have HI := Lib.hid hi
      generalize hb : sb.toList.isEmpty = b at hi
      have HB := Lib.hid hb
      clear hT hg hi
      go_enter Tryd.func15, Tryd.ntmps15
      go_wp2
      go_ret
      refine ⟨?_, 0, rfl⟩
      rw [gn_nil_text, ← HI.out, HB.out]
      first | rfl | (show Ending.returned (.bool _) = _; simp)
    | cons t r =>
      have htx := hT
      rw [texts_cons] at htx
      have hne : pb.size ≠ 0 := by
        rw [← nb_length, htx, List.length_append]
        have := List.length_pos_iff.mpr (text_ne t)
        omega
      have hze := isEmpty_str_not pb hne
      have hb := bx_get pb 0 (by omega)
      have hg1 := hg t (by simp)
      have HGR : Hid (∀ x ∈ r, Tok.gR x) := Lib.hid fun x hx => hg x (by simp [hx])
      have hts : (pb.extract 1 pb.size).size = pb.size - 1 := size_tail pb 1
      clear hT hg
      cases t with
      | star =>
        have hbc := bx_of htx
        have HTL := Lib.hid (tail_text htx)
        rw [hbc] at hb
        clear htx hbc hg1
        have HGS := gn_star hasR r (nb sb)
        have HS := Lib.hid HGS; clear HGS
        have HC1 := Lib.hid (IH.out r (pb.extract 1 pb.size) sb w (by omega) HTL.out HGR.out (by omega) hs)
        generalize gn hasR r (nb sb) = b1 at HC1 HS
        go_enter Tryd.func15, Tryd.ntmps15
        go_wp2_with fail
        with_reducible refine HC1.out.mono ?_
        rintro e w' ⟨rfl, m1, hw1⟩
        have HW1 := Lib.hid hw1; clear hw1
        cases b1 with
        | true =>
          go_wp2
          go_ret
          refine ⟨?_, m1, HW1.out⟩
          rw [HS.out]; rfl
        | false =>
          by_cases hz : sb.size = 0
          · have hse := isEmpty_str sb hz
            have HZ := Lib.hid (nb_nil hz); clear hz
            go_wp2
            go_ret
            refine ⟨?_, m1, HW1.out⟩
            rw [HS.out, HZ.out]; rfl
          · have hse := isEmpty_str_not sb hz
            have HN := Lib.hid (nb_cons sb (by omega))
            have hts2 : (sb.extract 1 sb.size).size = sb.size - 1 := size_tail sb 1
            have HC2 := Lib.hid (IH.out (.star :: r) pb (sb.extract 1 sb.size) w' (by omega) HT.out HG.out hp (by omega))
            have hlt : (1 : Int) ≤ sb.size := by omega
            clear hz hts hts2
            go_wp2_with fail
            with_reducible refine HC2.out.mono ?_
            rintro e w2 ⟨rfl, m2, hw2⟩
            have HW2 : Hid (w2 = w.drewN (m1 + m2)) := Lib.hid (by rw [hw2, HW1.out, World.drewN_drewN])
            have HGG : Hid (gn hasR (.star :: r) (nb sb) = gn hasR (.star :: r) (nb (sb.extract 1 sb.size))) := Lib.hid (by rw [HS.out, HN.out]; rfl)
            generalize gn hasR (.star :: r) (nb (sb.extract 1 sb.size)) = b2 at HGG
            clear hw2
            go_wp2
            go_ret
            refine ⟨?_, m1 + m2, HW2.out⟩
            rw [HGG.out]
            first | rfl | (cases b2 <;> rfl)
      | any =>
        have hbc := bx_of htx
        have HTL := Lib.hid (tail_text htx)
        rw [hbc] at hb
        clear htx hbc hg1
        have HS := Lib.hid (gn_one hasR .any r rfl (nb sb))
        by_cases hz : sb.size = 0
        · have hse := isEmpty_str sb hz
          have HZ := Lib.hid (nb_nil hz); clear hz
          go_enter Tryd.func15, Tryd.ntmps15
          go_wp2
          go_quiet (fail)
          go_wp2
          go_ret
          refine ⟨?_, _, rfl⟩
          rw [HS.out, HZ.out]; rfl
        · have hse := isEmpty_str_not sb hz
          have HN := Lib.hid (nb_cons sb (by omega))
          have hts2 : (sb.extract 1 sb.size).size = sb.size - 1 := size_tail sb 1
          have HC := fun W => IH.out r (pb.extract 1 pb.size) (sb.extract 1 sb.size) W (by omega) HTL.out HGR.out (by omega) (by omega)
          have hHC := HC
          have HGG : Hid (gn hasR (.any :: r) (nb sb) = gn hasR r (nb (sb.extract 1 sb.size))) := Lib.hid (by rw [HS.out, HN.out]; rfl)
          generalize gn hasR r (nb (sb.extract 1 sb.size)) = b2 at HC HGG
          have HCC := Lib.hid HC
          have hlt : (1 : Int) ≤ sb.size := by omega
          have hlt2 : (1 : Int) ≤ pb.size := by omega
          clear hz hts hts2 HC hHC
          go_enter Tryd.func15, Tryd.ntmps15
          go_wp2
          go_quiet ((go_at_call 15; exact Calls.quiet_of (HCC.out _)))
          go_wp2
          go_ret
          refine ⟨?_, _, rfl⟩
          rw [HGG.out]
          first | rfl | (cases b2 <;> rfl)
      | lit c =>
        have hbc := bx_of htx
        have HTL := Lib.hid (tail_text htx)
        rw [hbc] at hb
        clear htx hbc
        have hg2 : c ≠ 42 ∧ c ≠ 63 ∧ c ≠ 91 ∧ c ≠ 92 := hg1
        have k1 : ((c : Int) == 42) = false := beq_eq_false_iff_ne.mpr (by omega)
        have k2 : ((c : Int) == 63) = false := beq_eq_false_iff_ne.mpr (by omega)
        have k3 : ((c : Int) == 91) = false := beq_eq_false_iff_ne.mpr (by omega)
        have k4 : ((c : Int) == 92) = false := beq_eq_false_iff_ne.mpr (by omega)
        clear hg1 hg2
        have HS := Lib.hid (gn_one hasR (.lit c) r rfl (nb sb))
        by_cases hz : sb.size = 0
        · have hse := isEmpty_str sb hz
          have HZ := Lib.hid (nb_nil hz); clear hz
          go_enter Tryd.func15, Tryd.ntmps15
          go_wp2
          go_quiet (fail)
          go_wp2
          go_ret
          refine ⟨?_, _, rfl⟩
          rw [HS.out, HZ.out]; rfl
        · have hse := isEmpty_str_not sb hz
          have HN := Lib.hid (nb_cons sb (by omega))
          have hbs := bx_get sb 0 (by omega)
          have hts2 : (sb.extract 1 sb.size).size = sb.size - 1 := size_tail sb 1
          generalize hxx : bx sb 0 = x at hbs
          have HX := Lib.hid hxx; clear hxx
          have hq : ∃ b, ((x : Int) == (c : Int)) = b ∧ (c == x) = b := ⟨_, rfl, by rw [Bool.eq_iff_iff, beq_iff_eq, beq_iff_eq]; omega⟩
          obtain ⟨b, q1, q2⟩ := hq
          have HC := fun W => IH.out r (pb.extract 1 pb.size) (sb.extract 1 sb.size) W (by omega) HTL.out HGR.out (by omega) (by omega)
          have HGG : Hid (gn hasR (.lit c :: r) (nb sb) = (b && gn hasR r (nb (sb.extract 1 sb.size)))) := Lib.hid (by rw [HS.out, HN.out, HX.out]; show ((c == x) && _) = _; rw [q2])
          generalize gn hasR r (nb (sb.extract 1 sb.size)) = b2 at HC HGG
          have HCC := Lib.hid HC
          have hlt : (1 : Int) ≤ sb.size := by omega
          have hlt2 : (1 : Int) ≤ pb.size := by omega
          have hlt3 : (0 : Int) < sb.size := by omega
          have hlt4 : (0 : Int) < pb.size := by omega
          clear hts hts2 HC q2
          cases b with
          | true =>
            go_enter Tryd.func15, Tryd.ntmps15
            go_wp2
            go_quiet ((go_at_call 15; exact Calls.quiet_of (HCC.out _)))
            go_wp2
            go_ret
            refine ⟨?_, _, rfl⟩
            rw [HGG.out]
            first | rfl | (cases b2 <;> rfl)
          | false =>
            go_enter Tryd.func15, Tryd.ntmps15
            go_wp2
            go_quiet ((go_at_call 15; exact Calls.quiet_of (HCC.out _)))
            go_wp2
            go_ret
            refine ⟨?_, _, rfl⟩
            rw [HGG.out]
            first | rfl | (cases b2 <;> rfl)
      | esc c =>
        have htx' : nb pb = 92 :: c :: texts r := htx
        have hbc := bx_of htx'
        have HTL := Lib.hid (tail_text htx')
        have hcs3 : 2 ≤ pb.size := by rw [size_of htx']; simp
        have hb2 := bx_get pb 1 (by omega)
        have hbc2 : bx pb 1 = c := by unfold bx; rw [htx']; rfl
        rw [hbc] at hb
        rw [hbc2] at hb2
        have HTL2 : Hid (nb (pb.extract 2 pb.size) = texts r) := Lib.hid (by rw [nb_tail, htx']; rfl)
        have hts3 : (pb.extract 2 pb.size).size = pb.size - 2 := size_tail pb 2
        clear htx htx' hbc hbc2 hg1
        have HS := Lib.hid (gn_one hasR (.esc c) r rfl (nb sb))
        have hp1 : (1 : Int) < pb.size := by omega
        by_cases hz : sb.size = 0
        · have hse := isEmpty_str sb hz
          have HZ := Lib.hid (nb_nil hz); clear hz
          go_enter Tryd.func15, Tryd.ntmps15
          go_wp2
          go_quiet (fail)
          go_wp2
          go_ret
          refine ⟨?_, _, rfl⟩
          rw [HS.out, HZ.out]; rfl
        · have hse := isEmpty_str_not sb hz
          have HN := Lib.hid (nb_cons sb (by omega))
          have hbs := bx_get sb 0 (by omega)
          have hts2 : (sb.extract 1 sb.size).size = sb.size - 1 := size_tail sb 1
          generalize hxx : bx sb 0 = x at hbs
          have HX := Lib.hid hxx; clear hxx
          have hq : ∃ b, ((x : Int) == (c : Int)) = b ∧ (c == x) = b := ⟨_, rfl, by rw [Bool.eq_iff_iff, beq_iff_eq, beq_iff_eq]; omega⟩
          obtain ⟨b, q1, q2⟩ := hq
          have HC := fun W => IH.out r (pb.extract 2 pb.size) (sb.extract 1 sb.size) W (by omega) HTL2.out HGR.out (by omega) (by omega)
          have HGG : Hid (gn hasR (.esc c :: r) (nb sb) = (b && gn hasR r (nb (sb.extract 1 sb.size)))) := Lib.hid (by rw [HS.out, HN.out, HX.out]; show ((c == x) && _) = _; rw [q2])
          generalize gn hasR r (nb (sb.extract 1 sb.size)) = b2 at HC HGG
          have HCC := Lib.hid HC
          have hlt : (1 : Int) ≤ sb.size := by omega
          have hlt2 : (2 : Int) ≤ pb.size := by omega
          have hlt3 : (0 : Int) < sb.size := by omega
          clear hts hts2 HC q2 hts3
          cases b with
          | true =>
            go_enter Tryd.func15, Tryd.ntmps15
            go_wp2
            go_quiet ((go_at_call 15; exact Calls.quiet_of (HCC.out _)))
            go_wp2
            go_ret
            refine ⟨?_, _, rfl⟩
            rw [HGG.out]
            first | rfl | (cases b2 <;> rfl)
          | false =>
            go_enter Tryd.func15, Tryd.ntmps15
            go_wp2
            go_quiet ((go_at_call 15; exact Calls.quiet_of (HCC.out _)))
            go_wp2
            go_ret
            refine ⟨?_, _, rfl⟩
            rw [HGG.out]
            first | rfl | (cases b2 <;> rfl)
      | set neg items =>
        have htx' : nb pb = 91 :: (negText neg ++ (itemsText items ++ 93 :: texts r)) := by rw [htx]; simp [Tok.text]
        have hg2 : items ≠ [] ∧ ∀ i ∈ items, goodItem i := hg1
        have hbc := bx_of htx'
        rw [hbc] at hb
        have hln1 : (negText neg).length ≤ 1 := by cases neg <;> decide
        have hiln : 1 ≤ (itemsText items).length := by
          obtain ⟨d, m, e, _⟩ := items_first items hg2.1 hg2.2 []
          rw [List.append_nil] at e
          rw [e]; simp
        obtain ⟨m, hm⟩ : ∃ m, m = 1 + (negText neg).length + (itemsText items).length := ⟨_, rfl⟩
        have hmsz : m < pb.size := by rw [size_of htx', hm]; simp; omega
        have hat : ∀ j, bx pb (1 + j) = (negText neg ++ (itemsText items ++ 93 :: texts r)).getD j 0 := fun j => by
          unfold bx; rw [htx', List.getD_eq_getElem?_getD, List.getD_eq_getElem?_getD, Nat.add_comm 1 j, List.getElem?_cons_succ]
        have hend : bx pb m = 93 := by
          rw [hm, Nat.add_assoc, hat, List.getD_eq_getElem?_getD, List.getElem?_append_right (by omega), List.getElem?_append_right (by omega), Nat.add_sub_cancel_left, Nat.sub_self]
          rfl
        have hno : ∀ j, 2 ≤ j → j < m → bx pb j ≠ 93 := fun j h1 h2 => by
          obtain ⟨i, rfl⟩ : ∃ i, j = 1 + i := ⟨j - 1, by omega⟩
          have hi : (negText neg).length ≤ i := by omega
          rw [hat, List.getD_eq_getElem?_getD, List.getElem?_append_right hi, List.getElem?_append_left (by omega), List.getElem?_eq_getElem (by omega)]
          have := items_plain items hg2.2 ((itemsText items)[i - (negText neg).length]'(by omega)) (List.getElem_mem _)
          unfold letter at this
          show (itemsText items)[i - (negText neg).length]'_ ≠ 93
          omega
        have hset : nb (pb.extract 1 m) = negText neg ++ itemsText items := by
          rw [nb_extract, htx', List.drop_one, List.tail_cons, ← List.append_assoc, List.take_left' (by rw [List.length_append, hm]; omega)]
        have hrest : nb (pb.extract (m + 1) pb.size) = texts r := by
          rw [nb_tail, htx']
          have e : (91 :: (negText neg ++ (itemsText items ++ 93 :: texts r))) = (91 :: (negText neg ++ (itemsText items ++ [93]))) ++ texts r := by simp
          rw [e, List.drop_left' (by rw [hm]; simp; omega)]
        have hset1 : (pb.extract 1 m).size = m - 1 := by rw [ByteArray.size_extract]; omega
        have hrest1 : (pb.extract (m + 1) pb.size).size = pb.size - (m + 1) := size_tail pb (m + 1)
        have HEND := Lib.hid (globEnd_any pb m w hp (by omega) hmsz hend hno)
        have HSET := Lib.hid hset; have HREST := Lib.hid hrest; have HG2 := Lib.hid hg2
        have hm2 : 2 ≤ m := by omega
        clear htx htx' hbc hg1 hat hend hno hset hrest hm hg2 hln1 hiln
        have HS := Lib.hid (gn_one hasR (.set neg items) r rfl (nb sb))
        by_cases hz : sb.size = 0
        · have hse := isEmpty_str sb hz
          have HZ := Lib.hid (nb_nil hz); clear hz
          go_enter Tryd.func15, Tryd.ntmps15
          go_wp2_with fail
          with_reducible refine HEND.out.mono ?_
          rintro e w' ⟨rfl, rfl⟩
          go_wp2
          go_quiet (fail)
          go_wp2
          go_ret
          refine ⟨?_, _, rfl⟩
          rw [HS.out, HZ.out]; rfl
        · have hse := isEmpty_str_not sb hz
          have HN := Lib.hid (nb_cons sb (by omega))
          have hbs := bx_get sb 0 (by omega)
          have hts2 : (sb.extract 1 sb.size).size = sb.size - 1 := size_tail sb 1
          have HC := fun W => IH.out r (pb.extract (m + 1) pb.size) (sb.extract 1 sb.size) W (by omega) HREST.out HGR.out (by omega) (by omega)
          have HSC := fun W => globSet_any (pb.extract 1 m) neg items (bx sb 0) W (by omega) HG2.out.1 HG2.out.2 HSET.out
          have HGG : Hid (gn hasR (.set neg items :: r) (nb sb) = ((items.any (hasItem (bx sb 0)) != neg) && gn hasR r (nb (sb.extract 1 sb.size)))) := Lib.hid (by rw [HS.out, HN.out]; rfl)
          generalize gn hasR r (nb (sb.extract 1 sb.size)) = b2 at HC HGG
          generalize (items.any (hasItem (bx sb 0)) != neg) = b at HSC HGG
          generalize bx sb 0 = x at hbs HSC
          have HCC := Lib.hid HC
          have HSS := Lib.hid HSC
          have hlt : (1 : Int) ≤ sb.size := by omega
          have hlt2 : (m : Int) + 1 ≤ pb.size := by omega
          have hlt3 : (0 : Int) < sb.size := by omega
          have hlt4 : 0 < m := by omega
          have hlt5 : (1 : Int) ≤ m := by omega
          have hlt6 : (m : Int) ≤ pb.size := by omega
          clear hts hts2 HC hset1 hrest1 HSC
          cases b with
          | true =>
            go_enter Tryd.func15, Tryd.ntmps15
            go_wp2_with fail
            with_reducible refine HEND.out.mono ?_
            rintro e w' ⟨rfl, rfl⟩
            go_wp2
            go_quiet (first | (go_at_call 34; exact (HSS.out _).mono (fun _ _ ⟨he, hm⟩ => ⟨he, _, hm.symm⟩)) | (go_at_call 15; exact Calls.quiet_of (HCC.out _)))
            go_wp2
            go_ret
            refine ⟨?_, _, rfl⟩
            rw [HGG.out]
            first | rfl | (cases b2 <;> rfl)
          | false =>
            go_enter Tryd.func15, Tryd.ntmps15
            go_wp2_with fail
            with_reducible refine HEND.out.mono ?_
            rintro e w' ⟨rfl, rfl⟩
            go_wp2
            go_quiet (first | (go_at_call 34; exact (HSS.out _).mono (fun _ _ ⟨he, hm⟩ => ⟨he, _, hm.symm⟩)) | (go_at_call 15; exact Calls.quiet_of (HCC.out _)))
            go_wp2
            go_ret
            refine ⟨?_, _, rfl⟩
            rw [HGG.out]
            first | rfl | (cases b2 <;> rfl)
end Go.Proofs.YteipeagdflcjjaaDoor
