/- ParsePattern. -/
import Derived.Test.YteipeagdflcjjaaDoorGlob
import Derived.Test.YteipeagdflcjjaaDoorSearch
import Derived.OneCell
import Derived.Test.YteipeagdflcjjaaDoorMatch
namespace Go.Proofs.YteipeagdflcjjaaDoor
open Go.RowKit
set_option linter.unusedSimpArgs false
set_option linter.unusedVariables false

/-! ## A block of five cells -/
def Row5 (w : World) (b : Nat) (v0 v1 v2 v3 v4 : Value) : Prop := w.heap[b]? = some (.cells #[v0, v1, v2, v3, v4] 148 (0, 0))
theorem Row5.cells {w : World} {b : Nat} {v0 v1 v2 v3 v4 : Value} (h : Row5 w b v0 v1 v2 v3 v4) :
    w.cell? ⟨b, 0, none⟩ = some v0 ∧ w.cell? ⟨b, 1, none⟩ = some v1 ∧ w.cell? ⟨b, 2, none⟩ = some v2 ∧ w.cell? ⟨b, 3, none⟩ = some v3 ∧ w.cell? ⟨b, 4, none⟩ = some v4 := by
  unfold Row5 at h
  refine ⟨?_, ?_, ?_, ?_, ?_⟩ <;> simp [World.cell?, h]
theorem Row5.free {w : World} {b : Nat} {v0 v1 v2 v3 v4 : Value} (h : Row5 w b v0 v1 v2 v3 v4) :
    w.frozen? ⟨b, 1, none⟩ = false ∧ w.frozen? ⟨b, 3, none⟩ = false ∧ w.frozen? ⟨b, 4, none⟩ = false := by
  unfold Row5 at h
  refine ⟨?_, ?_, ?_⟩ <;> simp [World.frozen?, h]
theorem Row5.set1 {w : World} {b : Nat} {v0 v1 v2 v3 v4 : Value} (h : Row5 w b v0 v1 v2 v3 v4) (u : Value) : Row5 (w.setCell ⟨b, 1, none⟩ u) b v0 u v2 v3 v4 := by
  have hlt := lt_of_block h
  have h' : w.heap[b] = .cells #[v0, v1, v2, v3, v4] 148 (0, 0) := by simpa [Row5, Array.getElem?_eq_getElem hlt] using h
  show (w.heap.modify b _)[b]? = _
  rw [Array.getElem?_eq_getElem (by simpa using hlt), Array.getElem_modify_self, h']
  rfl
theorem Row5.set3 {w : World} {b : Nat} {v0 v1 v2 v3 v4 : Value} (h : Row5 w b v0 v1 v2 v3 v4) (u : Value) : Row5 (w.setCell ⟨b, 3, none⟩ u) b v0 v1 v2 u v4 := by
  have hlt := lt_of_block h
  have h' : w.heap[b] = .cells #[v0, v1, v2, v3, v4] 148 (0, 0) := by simpa [Row5, Array.getElem?_eq_getElem hlt] using h
  show (w.heap.modify b _)[b]? = _
  rw [Array.getElem?_eq_getElem (by simpa using hlt), Array.getElem_modify_self, h']
  rfl
theorem Row5.set4 {w : World} {b : Nat} {v0 v1 v2 v3 v4 : Value} (h : Row5 w b v0 v1 v2 v3 v4) (u : Value) : Row5 (w.setCell ⟨b, 4, none⟩ u) b v0 v1 v2 v3 u := by
  have hlt := lt_of_block h
  have h' : w.heap[b] = .cells #[v0, v1, v2, v3, v4] 148 (0, 0) := by simpa [Row5, Array.getElem?_eq_getElem hlt] using h
  show (w.heap.modify b _)[b]? = _
  rw [Array.getElem?_eq_getElem (by simpa using hlt), Array.getElem_modify_self, h']
  rfl
theorem Row5.below {w w' : World} {b : Nat} {v0 v1 v2 v3 v4 : Value} (h : Row5 w b v0 v1 v2 v3 v4) (hb : Below w.heap.size w w') : Row5 w' b v0 v1 v2 v3 v4 := by
  unfold Row5 at h ⊢
  rw [hb.block b (lt_of_block h)]; exact h

/-! ## What the text gives -/
theorem PatText.bytes {t : ByteArray} {behind : Bool} {PL : List ByteArray} (h : PatText t behind PL) : ∀ c ∈ nb t, c ≠ 32 ∧ c ≠ 33 := by
  obtain ⟨body, h1, _, _, h4, _⟩ := h.body
  intro c hc
  rw [h1] at hc
  rcases List.mem_append.mp hc with hc | hc
  · exact h4 c hc
  · split at hc
    · rw [List.mem_singleton] at hc; omega
    · cases hc
theorem mem_ext {s : ByteArray} {a b c : Nat} (h : c ∈ nb (s.extract a b)) : c ∈ nb s := by
  rw [nb_extract] at h
  exact List.mem_of_mem_drop (List.mem_of_mem_take h)
theorem PatText.noPre {t : ByteArray} {behind : Bool} {PL : List ByteArray} (h : PatText t behind PL) : pre t ⟨#[33]⟩ = false := by
  unfold pre
  rw [Bool.and_eq_false_iff]
  right
  rw [beq_eq_false_iff_ne]
  intro e
  have : 33 ∈ nb (t.extract 0 (⟨#[33]⟩ : ByteArray).size) := by rw [e]; simp [nb]
  exact (h.bytes 33 (mem_ext this)).2 rfl
theorem PatText.noSuf {t : ByteArray} {behind : Bool} {PL : List ByteArray} (h : PatText t behind PL) : suf t ⟨#[92, 32]⟩ = false := by
  unfold suf
  rw [Bool.and_eq_false_iff]
  right
  rw [beq_eq_false_iff_ne]
  intro e
  have : 32 ∈ nb (t.extract (t.size - (⟨#[92, 32]⟩ : ByteArray).size) t.size) := by rw [e]; simp [nb]
  exact (h.bytes 32 (mem_ext this)).1 rfl
theorem last_bx (s : ByteArray) (m : Nat) (h : s.size = m + 1) : (nb s).getLast? = some (bx s m) := by
  rw [List.getLast?_eq_getElem?, nb_length, h, Nat.add_sub_cancel, List.getElem?_eq_getElem (by rw [nb_length]; omega), bx_getElem]
theorem PatText.pos {t : ByteArray} {behind : Bool} {PL : List ByteArray} (h : PatText t behind PL) : ∃ m, t.size = m + 1 := by
  obtain ⟨body, h1, _, h3, _⟩ := h.body
  refine ⟨t.size - 1, ?_⟩
  have := congrArg List.length h1
  rw [nb_length, List.length_append] at this
  have := List.length_pos_iff.mpr h3
  omega
theorem suf_last (t : ByteArray) (m : Nat) (h : t.size = m + 1) : suf t ⟨#[47]⟩ = decide (bx t m = 47) := by
  unfold suf
  rw [decide_eq_true (show (⟨#[47]⟩ : ByteArray).size ≤ t.size by rw [h]; show 1 ≤ m + 1; omega), Bool.true_and]
  rw [show t.size - (⟨#[47]⟩ : ByteArray).size = m by rw [h]; rfl, nb_tail, drop_bx t m (by omega), List.drop_eq_nil_of_le (by rw [nb_length]; omega)]
  rw [Bool.eq_iff_iff, beq_iff_eq, decide_eq_true_iff]
  exact ⟨fun e => (List.cons.inj e).1, fun e => by rw [e]; rfl⟩
theorem PatText.last {t : ByteArray} {behind : Bool} {PL : List ByteArray} (h : PatText t behind PL) {m : Nat} (hm : t.size = m + 1) : decide (bx t m = 47) = behind ∧ splitN (nb (if behind = true then t.extract 0 m else t)) = PL.map nb := by
  obtain ⟨body, h1, h2, h3, h4, h5⟩ := h.body
  have hl := last_bx t m hm
  cases behind with
  | true =>
    rw [if_pos rfl] at h1
    refine ⟨?_, ?_⟩
    · rw [h1, List.getLast?_append] at hl
      rw [decide_eq_true_iff]
      exact (Option.some.inj hl).symm
    · rw [if_pos rfl, nb_extract, List.drop_zero, h1]
      have hlen : body.length = m := by
        have := congrArg List.length h1
        rw [nb_length, List.length_append] at this
        simp at this; omega
      rw [Nat.sub_zero, ← hlen, List.take_left]
      exact h2
  | false =>
    rw [if_neg (by decide), List.append_nil] at h1
    refine ⟨?_, ?_⟩
    · rw [decide_eq_false_iff_not]
      intro e
      rw [e, h1] at hl
      exact h5 hl
    · rw [if_neg (by decide), h1]; exact h2
theorem has_stroke (s : ByteArray) : hasSub s ⟨#[47]⟩ = decide (2 ≤ (splitN (nb s)).length) := by
  rw [Bool.eq_iff_iff, decide_eq_true_iff, ← splitN_has, hasSub_iff]
  constructor
  · rintro ⟨i, h1, h2⟩
    unfold subAt at h2
    rw [beq_iff_eq] at h2
    have : 47 ∈ nb (s.extract i (i + (⟨#[47]⟩ : ByteArray).size)) := by rw [h2]; simp [nb]
    exact mem_ext this
  · intro h
    obtain ⟨i, hi, e⟩ := List.mem_iff_getElem.mp h
    rw [bx_getElem s i hi] at e
    rw [nb_length] at hi
    refine ⟨i, by show i + 1 ≤ s.size; omega, ?_⟩
    unfold subAt
    rw [beq_iff_eq, nb_extract, show i + (⟨#[47]⟩ : ByteArray).size - i = 0 + 1 by show i + 1 - i = 0 + 1; omega, drop_bx' s i hi, e]
    rfl
theorem map_nb_inj {L M : List ByteArray} (h : L.map nb = M.map nb) : L = M := (List.map_inj_right (fun _ _ h => nb_inj h)).mp h

/-! ## The pattern that is made -/
structure PatObj (w : World) (b : Nat) (PL : List ByteArray) (behind : Bool) : Prop where
  row : ∃ A c, Row5 w b (.slice none 0 0) (.slice A PL.length c) (.bool false) (.bool behind) (.bool (decide (2 ≤ PL.length))) ∧ Strs w A PL.length (fun i => PL.getD i ⟨#[]⟩)
theorem PatObj.below {w w' : World} {b : Nat} {PL : List ByteArray} {behind : Bool} (h : PatObj w b PL behind) (hb : Below w.heap.size w w') : PatObj w' b PL behind := by
  obtain ⟨A, c, h1, h2⟩ := h.row
  exact ⟨A, c, h1.below hb, h2.below hb⟩

def ParsePost (behind : Bool) (PL : List ByteArray) (w : World) (e : Ending) (w' : World) : Prop :=
  ∃ b, e = .returned (.iface 151 (.pointer (some ⟨b, 0, none⟩))) ∧ PatObj w' b PL behind ∧ Below w.heap.size w w'

set_option maxRecDepth 100000 in
set_option maxHeartbeats 4000000 in
theorem parse_any (t : ByteArray) (behind : Bool) (PL : List ByteArray) (w : World) (ht : PatText t behind PL) :
    Calls Tryd.prog 54 #[.string t, .slice none 0 0] w (ParsePost behind PL w) := by
  have hsm := ht.small
  obtain ⟨m, hm⟩ := ht.pos
  obtain ⟨hl1, hl2⟩ := ht.last hm
  have hsl := suf_last t m hm
  rw [hl1] at hsl
  have h32 := (ht.bytes (bx t m) (by rw [← bx_getElem t m (by rw [nb_length]; omega)]; exact List.getElem_mem _)).1
  have HT := Lib.hid ht; clear ht
  have HS := Lib.hid hsl; clear hsl
  have HL := Lib.hid hl2; clear hl1 hl2
  have HM := Lib.hid hm; clear hm
  have H32 := Lib.hid h32; clear h32
  go_enter Tryd.func54, Tryd.ntmps54
  go_upto_region 3 with (fail)
  have hrow : Row5 (w.alloc (.cells #[.slice none 0 0, .slice none 0 0, .bool false, .bool false, .bool false] 148)) w.heap.size (.slice none 0 0) (.slice none 0 0) (.bool false) (.bool false) (.bool false) := heap_new _ _
  have hbel : Below w.heap.size w (w.alloc (.cells #[.slice none 0 0, .slice none 0 0, .bool false, .bool false, .bool false] 148)) := (Below.refl _ _).alloc (Nat.le_refl _) _
  generalize w.alloc _ = W at hrow hbel ⊢
  have HR := Lib.hid hrow; clear hrow
  have HB := Lib.hid hbel; clear hbel
  generalize hb0 : w.heap.size = b0 at HR HB ⊢
  have HB0 := Lib.hid hb0; clear hb0
  go_wp2_with fail
  with_reducible refine (hasPrefix_any t ⟨#[33]⟩ _ (by unfold maxLen; omega) (by decide)).mono ?_
  rintro e w1 ⟨rfl, rfl⟩
  rw [HT.out.noPre]
  go_wp2_with fail
  with_reducible refine (hasSuffix_any t ⟨#[92, 32]⟩ _ (by omega) (by decide)).mono ?_
  rintro e w1 ⟨rfl, rfl⟩
  rw [HT.out.noSuf]
  go_wp2_with fail
  with_reducible refine (zzTrim_any t m _ (by omega) HM.out H32.out).mono ?_
  rintro e w1 ⟨rfl, hb⟩
  have HR1 := Lib.hid (HR.out.below hb)
  have HB1 := Lib.hid (HB.out.trans (hb.mono (by have := HB.out.size; have := HB0.out; omega)))
  clear hb HR HB
  go_wp2_with fail
  with_reducible refine (hasSuffix_any t ⟨#[47]⟩ _ (by omega) (by decide)).mono ?_
  rintro e w2 ⟨rfl, rfl⟩
  rw [HS.out]
  go_upto_if 21 with (fail)
  go_cut [0] (fun v wx => ∃ t2 : ByteArray, v = .string t2 ∧ t2.size ≤ 100 ∧ splitN (nb t2) = PL.map nb ∧ Row5 wx b0 (.slice none 0 0) (.slice none 0 0) (.bool false) (.bool behind) (.bool false) ∧ Below b0 w wx)
  case first =>
    cases behind with
    | true =>
      obtain ⟨f1, f3, f4⟩ := HR1.out.free
      obtain ⟨c0, c1, c2, c3, c4⟩ := HR1.out.cells
      have e1 : (t.size : Int) - 1 = (m : Int) := by have := HM.out; omega
      have hmt : m ≤ t.size := by have := HM.out; omega
      have HX : Hid ((t.extract 0 m).size ≤ 100) := Lib.hid (extract_le _ _ _ _ hsm)
      go_wp2
      go_meet
      case rel => exact ⟨_, rfl, HX.out, HL.out, HR1.out.set3 _, HB1.out.setCell (Nat.le_refl _) _⟩
    | false =>
      go_wp2
      go_meet
      case rel => exact ⟨t, rfl, hsm, HL.out, HR1.out, HB1.out⟩
  case rest =>
    obtain ⟨t2, rfl, hts2, hsp, hrow2, hbel2⟩ := hcut
    have HSP := Lib.hid hsp; clear hsp
    have HR2 := Lib.hid hrow2; clear hrow2
    have HB2 := Lib.hid hbel2; clear hbel2
    go_wp2_with fail
    with_reducible refine (zzContains_any t2 ⟨#[47]⟩ _ (by omega) (by decide)).mono ?_
    rintro e w2 ⟨rfl, rfl⟩
    have hhas : hasSub t2 ⟨#[47]⟩ = decide (2 ≤ PL.length) := by rw [has_stroke, HSP.out, List.length_map]
    rw [hhas]
    clear hhas
    generalize hD : decide (2 ≤ PL.length) = D
    have HD := Lib.hid hD; clear hD
    go_upto_if 29 with (fail)
    go_cut [] (fun wx => Row5 wx b0 (.slice none 0 0) (.slice none 0 0) (.bool false) (.bool behind) (.bool D) ∧ Below b0 w wx)
    case first =>
      cases D with
      | true =>
        obtain ⟨f1, f3, f4⟩ := HR2.out.free
        obtain ⟨c0, c1, c2, c3, c4⟩ := HR2.out.cells
        go_wp2
        go_meet
        case rel => exact ⟨HR2.out.set4 _, HB2.out.setCell (Nat.le_refl _) _⟩
      | false =>
        go_wp2
        go_meet
        case rel => exact ⟨HR2.out, HB2.out⟩
    case rest =>
      obtain ⟨hrow3, hbel3⟩ := hcut
      have HR3 := Lib.hid hrow3; clear hrow3
      have HB3 := Lib.hid hbel3; clear hbel3
      go_wp2_with fail
      with_reducible refine (zzSplit_any t2 _ (by omega)).mono ?_
      rintro e w4 ⟨v, L, rfl, hown, hL, hb4⟩
      have HOWN := Lib.hid hown
      have HL4 : Hid (L = PL) := Lib.hid (map_nb_inj (hL.trans HSP.out))
      have HR4 := Lib.hid (HR3.out.below hb4)
      have HB4 := Lib.hid (HB3.out.trans (hb4.mono (by have := HB3.out.size; have := HB0.out; omega)))
      have HLT : Hid (b0 < wc.heap.size) := Lib.hid (lt_of_block HR3.out)
      clear hown hL hb4
      obtain ⟨A0, c0', hv, _, _⟩ := HOWN.out.strs
      subst hv
      obtain ⟨f1, f3, f4⟩ := HR4.out.free
      obtain ⟨c0, c1, c2, c3, c4⟩ := HR4.out.cells
      go_wp2
      go_ret
      have ho2 : Own (w4.setCell ⟨b0, 1, none⟩ (.slice A0 L.length c0')) wc.heap.size (.slice A0 L.length c0') L := ownsRow_setCell_other HOWN.out (a := ⟨b0, 1, none⟩) (fun e => by have h1 := (HOWN.out.lt _ e).1; have h2 := HLT.out; dsimp only at h1; omega) _
      obtain ⟨A, c, hv2, _, hst⟩ := ho2.strs
      cases hv2
      have hLP := HL4.out
      subst hLP
      have hfin : Below b0 w (w4.setCell ⟨b0, 1, none⟩ (.slice A0 L.length c0')) := HB4.out.setCell (Nat.le_refl _) _
      refine ⟨b0, rfl, ⟨A0, c0', ?_, hst⟩, by rw [HB0.out]; exact hfin⟩
      rw [HD.out]
      exact HR4.out.set1 _
end Go.Proofs.YteipeagdflcjjaaDoor
/- simpleNameMatch. -/
namespace Go.Proofs.YteipeagdflcjjaaDoor
open Go.RowKit
set_option linter.unusedSimpArgs false
set_option linter.unusedVariables false

open Classical in
noncomputable def toksOf (s : ByteArray) : List Tok := if h : GoodPart s then Classical.choose h else []
theorem toks_spec {s : ByteArray} (h : GoodPart s) : nb s = texts (toksOf s) ∧ (∀ t ∈ toksOf s, Tok.good t) ∧ 1 ≤ s.size ∧ s.size ≤ 10 := by
  unfold toksOf
  rw [dif_pos h]
  exact Classical.choose_spec h
noncomputable def Mt (p e : ByteArray) : Bool := gm ((toksOf p).length + 1) (toksOf p) (nb e)
theorem match_any (p s : ByteArray) (w : World) (hp : GoodPart p) (hn : Nm s) : Calls Tryd.prog 131 #[.string p, .string s] w (MatchPost (Mt p s) w) := by
  obtain ⟨h1, h2, _, h4⟩ := toks_spec hp
  exact zzMatch_any (toksOf p) p s w h1 h2 (by omega) hn

def pathL (f : Nat → ByteArray) (n : Nat) : List ByteArray := (List.range n).map f
theorem pathL_drop (f : Nat → ByteArray) (n k : Nat) (h : k < n) : (pathL f n).drop k = f k :: (pathL f n).drop (k + 1) := by
  have hl : (pathL f n).length = n := by unfold pathL; rw [List.length_map, List.length_range]
  rw [List.drop_eq_getElem_cons (by rw [hl]; exact h)]
  congr 1
  unfold pathL
  simp
theorem pathL_end (f : Nat → ByteArray) (n k : Nat) (h : n ≤ k) : (pathL f n).drop k = [] := List.drop_eq_nil_of_le (by unfold pathL; rw [List.length_map, List.length_range]; exact h)
theorem pathL_empty (f : Nat → ByteArray) (n k : Nat) : ((pathL f n).drop k).isEmpty = decide (n ≤ k) := by
  by_cases h : n ≤ k
  · rw [pathL_end f n k h, decide_eq_true h]; rfl
  · rw [pathL_drop f n k (by omega), decide_eq_false h]; rfl

def BoolBelow (b : Bool) (w : World) (e : Ending) (w' : World) : Prop := e = .returned (.bool b) ∧ Below w.heap.size w w'

set_option maxRecDepth 100000 in
set_option maxHeartbeats 4000000 in
theorem simple_any (b : Nat) (PL : List ByteArray) (behind isDir : Bool) (A : Option Addr) (n c : Nat) (f : Nat → ByteArray) (w : World)
    (ho : PatObj w b PL behind) (h1 : PL.length = 1) (hg : GoodPart (PL.getD 0 ⟨#[]⟩)) (hn : n ≤ 100) (hp : Strs w A n f) (hnm : ∀ i, i < n → NameOk (f i)) :
    Calls Tryd.prog 130 #[.pointer (some ⟨b, 0, none⟩), .slice A n c, .bool isDir] w (BoolBelow (simple Mt (PL.getD 0 ⟨#[]⟩) behind isDir (pathL f n)) w) := by
  have HO := Lib.hid ho; clear ho
  have HG := Lib.hid hg; clear hg
  have HP := Lib.hid hp; clear hp
  have HN := Lib.hid hnm; clear hnm
  have H1 := Lib.hid h1; clear h1
  generalize hG : simple Mt (PL.getD 0 ⟨#[]⟩) behind isDir (pathL f n) = G
  have HGG := Lib.hid hG; clear hG
  go_enter Tryd.func130, Tryd.ntmps130
  go_wp2
  go_loopw [13] (fun i wr => ∃ k : Nat, k ≤ n ∧ i = .int .i64 k ∧ G = simple Mt (PL.getD 0 ⟨#[]⟩) behind isDir ((pathL f n).drop k) ∧ Below w.heap.size w wr) (fun i _ => n - (intOf i).toNat)
  case atStart => exact ⟨0, Nat.zero_le _, rfl, HGG.out.symm, Below.refl _ _⟩
  case round =>
    obtain ⟨k, hk, rfl, hG, hbel⟩ := hrel
    have HGK := Lib.hid hG; clear hG
    have HB := Lib.hid hbel; clear hbel
    by_cases hlt : k < n
    · obtain ⟨bp, offp, hAe, _, hcell⟩ := (HP.out.below HB.out).at k hlt
      obtain ⟨A1, c1, hrow, hst⟩ := (HO.out.below HB.out).row
      obtain ⟨r0, r1, r2, r3, r4⟩ := hrow.cells
      obtain ⟨bq, offq, hAq, _, hcellq⟩ := hst.at 0 (by rw [H1.out]; omega)
      rw [Nat.add_zero] at hcellq
      have HNM := Lib.hid (HN.out k hlt).nm
      rw [pathL_drop f n k hlt] at HGK
      have HGK2 : Hid (G = if Mt (PL.getD 0 ⟨#[]⟩) (f k) = true then !(behind && !isDir && ((pathL f n).drop (k + 1)).isEmpty) else simple Mt (PL.getD 0 ⟨#[]⟩) behind isDir ((pathL f n).drop (k + 1))) := Lib.hid HGK.out
      rw [pathL_empty] at HGK2
      clear HGK
      rw [H1.out] at r1
      generalize f k = s at hcell HNM HGK2
      generalize PL.getD 0 ⟨#[]⟩ = p at *
      subst hAe hAq
      clear hrow hst r0 r2 r4
      go_wp2_with fail
      with_reducible refine (match_any p s _ HG.out HNM.out).mono ?_
      rintro e w' ⟨rfl, hb'⟩
      have HB2 := Lib.hid (HB.out.trans (hb'.mono HB.out.size)); clear hb'
      clear r1 r3 hcell hcellq HB
      obtain ⟨A2, c2, hrow2, _⟩ := (HO.out.below HB2.out).row
      obtain ⟨_, _, _, r3, _⟩ := hrow2.cells
      clear hrow2
      generalize Mt p s = B at HGK2 ⊢
      cases B with
      | false =>
        have HN2 : Hid (G = simple Mt p behind isDir ((pathL f n).drop (k + 1))) := Lib.hid (by rw [HGK2.out]; rfl)
        go_wp2
        go_roundw
        case rel => exact ⟨k + 1, by omega, by go_num, HN2.out, HB2.out⟩
        case measure => simp [intOf] <;> omega
      | true =>
        have HN2 : Hid (G = !(behind && !isDir && decide (n ≤ k + 1))) := Lib.hid (by rw [HGK2.out]; rfl)
        clear HGK2
        cases behind with
        | false =>
          have HN3 : Hid (G = true) := Lib.hid (by rw [HN2.out]; rfl)
          go_wp2
          go_ret
          exact ⟨by rw [HN3.out]; rfl, HB2.out⟩
        | true =>
          cases isDir with
          | true =>
            have HN3 : Hid (G = true) := Lib.hid (by rw [HN2.out]; rfl)
            go_wp2
            go_ret
            exact ⟨by rw [HN3.out]; rfl, HB2.out⟩
          | false =>
            by_cases hl : n ≤ k + 1
            · have q : ((k : Int) == (n : Int) - 1) = true := beq_iff_eq.mpr (by omega)
              have HN3 : Hid (G = false) := Lib.hid (by rw [HN2.out, decide_eq_true hl]; rfl)
              go_wp2
              try any_goals (exfalso; omega)
              go_ret
              exact ⟨by rw [HN3.out]; rfl, HB2.out⟩
            · have q : ((k : Int) == (n : Int) - 1) = false := beq_eq_false_iff_ne.mpr (by omega)
              have HN3 : Hid (G = true) := Lib.hid (by rw [HN2.out, decide_eq_false hl]; rfl)
              go_wp2
              try any_goals (exfalso; omega)
              go_ret
              exact ⟨by rw [HN3.out]; rfl, HB2.out⟩
    · have HN3 : Hid (G = false) := Lib.hid (by rw [HGK.out, pathL_end f n k (by omega)]; rfl)
      go_wp2
      go_ret
      exact ⟨by rw [HN3.out]; rfl, HB.out⟩
end Go.Proofs.YteipeagdflcjjaaDoor
