/- SkipUnless, KeptNames. -/
import Derived.Test.YtdmkjfkdjhmpjaaIdx
import Derived.Deep.DeepCutAuto
namespace Go.Proofs.Ytdmkjfkdjhmpjaa
open Go.RowKit
set_option linter.unusedSimpArgs false
set_option linter.unusedVariables false

/-- Some pattern stands ahead in s. -/
def anyPre (s : ByteArray) (m : Nat) (g : Nat → ByteArray) : Bool := (List.range m).any fun i => pre s (g i)
theorem anyPre_of {s : ByteArray} {m : Nat} {g : Nat → ByteArray} (k : Nat) (hk : k < m) (h : pre s (g k) = true) : anyPre s m g = true := by
  unfold anyPre
  rw [List.any_eq_true]
  exact ⟨k, List.mem_range.mpr hk, h⟩
theorem anyPre_none {s : ByteArray} {m : Nat} {g : Nat → ByteArray} (h : ∀ k, k < m → pre s (g k) = false) : anyPre s m g = false := by
  unfold anyPre
  rw [List.any_eq_false]
  intro k hk
  rw [h k (List.mem_range.mp hk)]; simp

theorem Idx.form {w : World} {B I n : Nat} {f : Nat → ByteArray} {sk : Nat → Bool} {v : Value} {e : Nat → Nat} (h : Idx w B I n f sk v e) :
    ∃ A cap, v = .slice A n cap ∧ n ≤ maxLen := by
  rcases h.own.2 with ⟨rfl, rfl⟩ | ⟨g, cap, cur, rfl, _, _, hn, hm, _⟩
  · exact ⟨none, 0, rfl, Nat.zero_le _⟩
  · exact ⟨_, cap, rfl, Nat.le_trans hn hm⟩
theorem Idx.rd {w : World} {B I n cap : Nat} {f : Nat → ByteArray} {sk : Nat → Bool} {A : Option Addr} {e : Nat → Nat} (h : Idx w B I n f sk (.slice A n cap) e) (k : Nat) (hk : k < n) :
    ∃ g, A = some ⟨g, 0, none⟩ ∧ w.cell? ⟨g, k, none⟩ = some (.pointer (some ⟨e k, 0, none⟩)) ∧ w.cell? ⟨e k, 20, none⟩ = some (.string (f k)) ∧ w.cell? ⟨e k, 32, none⟩ = some (.bool (sk k)) ∧ w.frozen? ⟨e k, 32, none⟩ = false ∧ B ≤ e k := by
  obtain ⟨h1, h2, h3, h4, h5⟩ := h.ents k hk
  rcases h.own.2 with ⟨h, rfl⟩ | ⟨g, cap', cur, hv, _⟩
  · omega
  · injection hv with e1 e2 e3
    subst e1
    have hc := h.own.cells (g := g) rfl k (.pointer (some ⟨e k, 0, none⟩)) (by unfold ptrs; rw [List.getElem?_map, List.getElem?_range hk]; rfl)
    refine ⟨g, rfl, ?_, h5.name, h5.skip, h5.free, h1⟩
    have hadd : (⟨g, 0, none⟩ : Addr).add k = ⟨g, k, none⟩ := by unfold Addr.add; split <;> simp_all
    rwa [hadd] at hc

theorem Idx.mark {w : World} {B I n : Nat} {f : Nat → ByteArray} {sk : Nat → Bool} {v : Value} {e : Nat → Nat} (h : Idx w B I n f sk v e) (k : Nat) (hk : k < n) (b : Bool) :
    Idx (w.setCell ⟨e k, 32, none⟩ (.bool b)) B I n f (fun j => if j = k then b else sk j) v e := by
  obtain ⟨h1, h2, h3, h4, h5⟩ := h.ents k hk
  have hset : ∀ i, i ≠ e k → (w.setCell ⟨e k, 32, none⟩ (.bool b)).heap[i]? = w.heap[i]? := fun i hi => Below.heap_setCell _ _ _ _ hi
  refine ⟨h.base, by rw [size_setCell]; exact h.lt, (World.cell?_of_block (a := ⟨I, 1, none⟩) (hset I (fun e => h3 e.symm))).trans h.field, (World.frozen?_of_block (a := ⟨I, 1, none⟩) (hset I (fun e => h3 e.symm))).trans h.free, ?_, h.apart, ?_, h.inj⟩
  · exact h.own.kept (row := some (e k)) ⟨rfl, rfl, rfl, by rw [size_setCell]; exact Nat.le_refl _, fun i _ hne => hset i (fun e => hne (by rw [e]))⟩ (.inr h4)
  · intro j hj
    obtain ⟨g1, g2, g3, g4, g5⟩ := h.ents j hj
    refine ⟨g1, by rw [size_setCell]; exact g2, g3, g4, ?_⟩
    by_cases hjk : j = k
    · subst hjk
      simp only [if_true]
      exact ⟨by rw [← h5.name]; exact World.cell?_setCell_other _ _ _ _ (fun h => by injection h with a b; omega), World.cell?_setCell_same _ _ _ h5.skip, by simpa using h5.free⟩
    · simp only [if_neg hjk]
      exact g5.block (hset _ (fun e => hjk (h.inj j k hj hk e)))
theorem Idx.congr {w : World} {B I n : Nat} {f : Nat → ByteArray} {sk sk' : Nat → Bool} {v : Value} {e : Nat → Nat} (h : Idx w B I n f sk v e) (hs : ∀ j, j < n → sk j = sk' j) : Idx w B I n f sk' v e :=
  ⟨h.base, h.lt, h.field, h.free, h.own, h.apart, fun j hj => by rw [← hs j hj]; exact h.ents j hj, h.inj⟩

/-- What is skipped when k entries have been looked at. -/
def skUpto (k : Nat) (f : Nat → ByteArray) (m : Nat) (g : Nat → ByteArray) (j : Nat) : Bool := decide (j < k) && !anyPre (f j) m g

theorem Idx.stay {w : World} {B I n k m : Nat} {f g : Nat → ByteArray} {v : Value} {e : Nat → Nat} (h : Idx w B I n f (skUpto k f m g) v e) (ha : anyPre (f k) m g = true) : Idx w B I n f (skUpto (k + 1) f m g) v e := by
  refine h.congr fun j hj => ?_
  unfold skUpto
  by_cases e : j = k
  · subst e; rw [ha]; simp
  · congr 1
    rw [Bool.eq_iff_iff, decide_eq_true_iff, decide_eq_true_iff]; omega
theorem Idx.skips {w : World} {B I n k m : Nat} {f g : Nat → ByteArray} {v : Value} {e : Nat → Nat} (h : Idx w B I n f (skUpto k f m g) v e) (hk : k < n) (ha : anyPre (f k) m g = false) : Idx (w.setCell ⟨e k, 32, none⟩ (.bool true)) B I n f (skUpto (k + 1) f m g) v e := by
  refine (h.mark k hk true).congr fun j hj => ?_
  unfold skUpto
  by_cases e : j = k
  · subst e; rw [ha]; simp
  · rw [if_neg e]
    congr 1
    rw [Bool.eq_iff_iff, decide_eq_true_iff, decide_eq_true_iff]; omega

def SkipPost (B I n : Nat) (f : Nat → ByteArray) (m : Nat) (g : Nat → ByteArray) (v : Value) (en : Nat → Nat) (w : World) (e : Ending) (w' : World) : Prop :=
  (∃ r, e = .returned r) ∧ Idx w' B I n f (skUpto n f m g) v en ∧ Below B w w'

set_option maxHeartbeats 1000000 in
theorem skip_any (B I n cap : Nat) (f : Nat → ByteArray) (A0 A : Option Addr) (m c : Nat) (g : Nat → ByteArray) (en : Nat → Nat) (w : World) (hB : B ≤ w.heap.size)
    (hmm : m ≤ 2147483647) (hn : n ≤ 1000) (hf : ∀ i, i < n → (f i).size ≤ maxLen) (hgs : ∀ i, i < m → (g i).size ≤ maxLen) (h : Idx w B I n f (fun _ => false) (.slice A0 n cap) en) (hg : ∀ w', Below B w w' → Strs w' A m g) :
    Calls Try.prog 33 #[.pointer (some ⟨I, 0, none⟩), .slice A m c] w (SkipPost B I n f m g (.slice A0 n cap) en w) := by
  have H0 : Hid (Idx w B I n f (skUpto 0 f m g) (.slice A0 n cap) en) := Lib.hid (h.congr fun j _ => by simp [skUpto])
  have hfield := h.field
  have HG := Lib.hid hg
  have HF := Lib.hid hf
  have HGS := Lib.hid hgs
  clear h hg hf hgs
  go_enter Try.func33, Try.ntmps33
  go_wp2
  clear hfield
  go_loopw [14] (fun i wr => ∃ k : Nat, k ≤ n ∧ i = .int .i64 k ∧ Idx wr B I n f (skUpto k f m g) (.slice A0 n cap) en ∧ Below B w wr) (fun i _ => n - (intOf i).toNat)
  case atStart => exact ⟨0, Nat.zero_le _, rfl, H0.out, Below.refl _ _⟩
  case round =>
    obtain ⟨k, hk, rfl, hidx, hbel⟩ := hrel
    have HI := Lib.hid hidx
    have HB := Lib.hid hbel
    by_cases hlt : k < n
    · obtain ⟨ga, rfl, hc1, hc2, hc3, hfr, hBe⟩ := hidx.rd k hlt
      have HBE := Lib.hid hBe
      clear hidx hbel hBe
      generalize skUpto k f m g k = sv at hc3
      have hfs := HF.out k hlt
      have HFS := Lib.hid hfs; clear hfs
      go_upto_region 4 with (fail)
      go_wp2
      go_loop [6, 20] (fun inc i => ∃ q : Nat, q ≤ m ∧ inc = .bool false ∧ i = .int .i64 q ∧ ∀ j, j < q → pre (f k) (g j) = false) (fun _ i => m - (intOf i).toNat)
      case atStart => exact ⟨0, Nat.zero_le _, rfl, rfl, fun j h => by omega⟩
      case round =>
        obtain ⟨q, hq, rfl, rfl, hall⟩ := hrel
        have HALL := Lib.hid hall; clear hall
        by_cases hql : q < m
        · obtain ⟨b, off, rfl, _, hcp⟩ := (HG.out _ HB.out).at q hql
          go_wp2_with fail
          with_reducible refine (hasPrefix_any _ _ _ HFS.out (HGS.out q hql)).mono ?_
          rintro e w2 ⟨rfl, rfl⟩
          generalize hP : pre (f k) (g q) = P
          cases P with
          | true =>
            have HS := Lib.hid (HI.out.stay (anyPre_of q hql hP))
            clear hP
            go_wp2
            go_roundw
            case rel => exact ⟨k + 1, by omega, by go_num, HS.out, HB.out⟩
            case measure => simp [intOf]; omega
          | false =>
            have HP := Lib.hid hP; clear hP
            go_wp2
            go_round
            case rel =>
              refine ⟨q + 1, by omega, rfl, by go_num, fun j hj => ?_⟩
              by_cases e : j = q
              · subst e; exact HP.out
              · exact HALL.out j (by omega)
            case measure => simp [intOf]; omega
        · have HS := Lib.hid (HI.out.skips hlt (anyPre_none fun j hj => HALL.out j (by omega)))
          have HB2 := Lib.hid (HB.out.setCell (p := ⟨en k, 32, none⟩) HBE.out (.bool true))
          go_wp2
          go_roundw
          case rel => exact ⟨k + 1, by omega, by go_num, HS.out, HB2.out⟩
          case measure => simp [intOf]; omega
    · obtain rfl : k = n := by omega
      clear hidx hbel
      go_wp2
      first | go_end0 | refine bodyPost_ret (results_none rfl _ _ _) rfl ?_
      exact ⟨⟨_, rfl⟩, HI.out, HB.out⟩

/-! ## A list of strings that the call made -/
theorem strInfo : (Try.prog.info? 9).map (fun i => (i.zero, i.size, i.bytes)) = some (some (.string ⟨#[]⟩), 1, 16) := by kernel_rfl
theorem strsKind : Try.prog.underlying 37 = some (.slice 9) := by kernel_rfl
def Own (w : World) (B : Nat) (v : Value) (L : List ByteArray) : Prop := w.ownsRow B 9 1 v L.length (L.map Value.string)
theorem Own.nil (w : World) (B : Nat) : Own w B (.slice none 0 0) [] := World.ownsRow_nil _ _ _ _
theorem Own.strs {w : World} {B : Nat} {v : Value} {L : List ByteArray} (h : Own w B v L) : ∃ A c, v = .slice A L.length c ∧ L.length ≤ maxLen ∧ Strs w A L.length (fun i => L.getD i ⟨#[]⟩) := by
  rcases h.2 with ⟨rfl, h0⟩ | ⟨g, cap, cur, rfl, _, hg, hn, hm, _⟩
  · refine ⟨none, 0, by rw [h0], by omega, fun i hi => by omega⟩
  · refine ⟨_, cap, rfl, Nat.le_trans hn hm, fun i hi => ⟨g, 0, rfl, (Array.getElem?_eq_some_iff.1 hg).1, ?_⟩⟩
    have hc := h.cells (g := g) rfl i (.string (L.getD i ⟨#[]⟩)) (by simp [List.getD_eq_getElem?_getD, hi])
    have hadd : (⟨g, 0, none⟩ : Addr).add i = ⟨g, 0 + i, none⟩ := by unfold Addr.add; split <;> simp_all
    rwa [hadd] at hc

/-- The names that are kept, of the first k. -/
def keptL (k : Nat) (f : Nat → ByteArray) (m : Nat) (g : Nat → ByteArray) : List ByteArray := ((List.range k).filter fun j => anyPre (f j) m g).map f
theorem keptL_hit {k m : Nat} {f g : Nat → ByteArray} (h : anyPre (f k) m g = true) : keptL (k + 1) f m g = keptL k f m g ++ [f k] := by
  unfold keptL
  rw [List.range_succ, List.filter_append, List.map_append]
  simp [h]
theorem keptL_miss {k m : Nat} {f g : Nat → ByteArray} (h : anyPre (f k) m g = false) : keptL (k + 1) f m g = keptL k f m g := by
  unfold keptL
  rw [List.range_succ, List.filter_append, List.map_append]
  simp [h]
theorem keptL_le (k m : Nat) (f g : Nat → ByteArray) : (keptL k f m g).length ≤ k := by
  unfold keptL
  rw [List.length_map]
  exact Nat.le_trans (List.length_filter_le _ _) (by simp)

/-- What an append onto a list of the call's own needs and gives. -/
theorem Own.more {w1 : World} {B g cap : Nat} {L : List ByteArray} {s : ByteArray}
    (hown : w1.ownsRow B 9 1 (.slice (some ⟨g, 0, none⟩) (L.length + 1) cap) (L.length + 1) (L.map Value.string ++ [.string s])) :
    Own w1 B (.slice (some ⟨g, 0, none⟩) (L.length + 1) cap) (L ++ [s]) := by
  unfold Own
  rw [List.map_append, List.length_append]
  exact hown

theorem Idx.below {w w1 : World} {B I n : Nat} {f : Nat → ByteArray} {sk : Nat → Bool} {v : Value} {e : Nat → Nat} (h : Idx w B I n f sk v e) (hb : Below w.heap.size w w1) : Idx w1 B I n f sk v e := by
  refine ⟨h.base, Nat.lt_of_lt_of_le h.lt hb.size, (World.cell?_of_block (a := ⟨I, 1, none⟩) (hb.block I h.lt)).trans h.field, (World.frozen?_of_block (a := ⟨I, 1, none⟩) (hb.block I h.lt)).trans h.free, ?_, h.apart, fun j hj => ?_, h.inj⟩
  · refine ⟨h.own.1, ?_⟩
    rcases h.own.2 with hn | ⟨g, cap, cur, rfl, hbg, hgg, rest⟩
    · exact .inl hn
    · exact .inr ⟨g, cap, cur, rfl, hbg, by rw [hb.block g (Array.getElem?_eq_some_iff.1 hgg).1]; exact hgg, rest⟩
  · obtain ⟨h1, h2, h3, h4, h5⟩ := h.ents j hj
    exact ⟨h1, Nat.lt_of_lt_of_le h2 hb.size, h3, h4, h5.block (hb.block _ h2)⟩
theorem Own.mono {w : World} {B B' : Nat} {v : Value} {L : List ByteArray} (h : Own w B v L) (hB : B' ≤ B) : Own w B' v L := by
  refine ⟨h.1, ?_⟩
  rcases h.2 with hn | ⟨g, cap, cur, rfl, hbg, rest⟩
  · exact .inl hn
  · exact .inr ⟨g, cap, cur, rfl, Nat.le_trans hB hbg, rest⟩
theorem Own.below {w w1 : World} {B : Nat} {v : Value} {L : List ByteArray} (h : Own w B v L) (hb : Below w.heap.size w w1) : Own w1 B v L := by
  refine ⟨h.1, ?_⟩
  rcases h.2 with hn | ⟨g, cap, cur, rfl, hbg, hgg, rest⟩
  · exact .inl hn
  · exact .inr ⟨g, cap, cur, rfl, hbg, by rw [hb.block g (Array.getElem?_eq_some_iff.1 hgg).1]; exact hgg, rest⟩
theorem news_str (w : World) (s : ByteArray) : ∀ (j : Nat) (u : Value), [Value.string s][j]? = some u → (w.alloc (.cells #[.string s] 9)).cell? ((⟨w.heap.size, 0, none⟩ : Addr).add j) = some u := by
  intro j u hj
  match j, hj with
  | 0, hj =>
    simp at hj; subst hj
    exact World.cell?_alloc_mark w #[Value.string s] 9 (0, 0) 0
theorem one_str (s : ByteArray) : ∀ u ∈ [Value.string s], u.oneCell' = true := by
  intro u hu; simp at hu; subst hu; rfl

def KeptPost (n : Nat) (f : Nat → ByteArray) (m : Nat) (g : Nat → ByteArray) (w : World) (e : Ending) (w' : World) : Prop :=
  ∃ v, e = .returned v ∧ Own w' w.heap.size v (keptL n f m g) ∧ Below w.heap.size w w'

set_option maxHeartbeats 1000000 in
theorem kept_any (A1 A2 : Option Addr) (n m c1 c2 : Nat) (f g : Nat → ByteArray) (w : World) (hn : n ≤ 1000) (hmm : m ≤ 2147483647)
    (hf : ∀ i, i < n → (f i).size ≤ maxLen) (hgs : ∀ i, i < m → (g i).size ≤ maxLen) (h1 : Strs w A1 n f) (h2 : Strs w A2 m g) :
    Calls Try.prog 21 #[.slice A1 n c1, .slice A2 m c2] w (KeptPost n f m g w) := by
  have HF := Lib.hid hf
  have HGS := Lib.hid hgs
  have H1 := Lib.hid h1
  have H2 := Lib.hid h2
  clear hf hgs h1 h2
  go_enter Try.func21, Try.ntmps21
  go_wp2_with fail
  with_reducible refine (named_any _ _ _ f _ hn H1.out).mono ?_
  rintro e w1 ⟨v, en, rfl, hidx, hb1⟩
  obtain ⟨A0, cap, rfl, _⟩ := hidx.form
  have HI := Lib.hid hidx
  have HB1 := Lib.hid hb1
  clear hidx hb1
  go_wp2_with fail
  with_reducible refine (skip_any w.heap.size w.heap.size n cap f A0 A2 m c2 g en w1 HB1.out.size hmm hn HF.out HGS.out HI.out (fun w' hb => H2.out.below (HB1.out.trans hb))).mono ?_
  rintro e w2 ⟨⟨r, rfl⟩, hidx, hb2⟩
  have hfield := hidx.field
  have HI2 := Lib.hid hidx
  have HB2 := Lib.hid (HB1.out.trans hb2)
  clear hidx hb2 HI HB1
  go_wp2
  clear hfield
  obtain ⟨i0, hi, hz0, hz1, hz2⟩ := info_parts strInfo
  go_loopw [4, 18] (fun l i wr => ∃ k : Nat, k ≤ n ∧ i = .int .i64 k ∧ Own wr w2.heap.size l (keptL k f m g) ∧ Below w2.heap.size w2 wr) (fun _ i _ => n - (intOf i).toNat)
  case atStart => exact ⟨0, Nat.zero_le _, rfl, Own.nil _ _, Below.refl _ _⟩
  case round =>
    obtain ⟨k, hk, rfl, hown, hbel⟩ := hrel
    have HOWN := Lib.hid hown
    have HBW := Lib.hid hbel
    by_cases hlt : k < n
    · obtain ⟨ga, rfl, hc1, hc2, hc3, hfr, hBe⟩ := (HI2.out.below hbel).rd k hlt
      have hle := keptL_le k m f g
      clear hown hbel hfr hBe
      by_cases hp : anyPre (f k) m g = true
      · have hsk : skUpto n f m g k = false := by unfold skUpto; rw [hp]; simp
        rw [hsk] at hc3
        have HP := Lib.hid hp
        clear hp hsk
        go_wp2_with (at_builtin; refine wpList_append_lies _ rfl (.tmp 27) (.tmp 32) 37 rfl w2.heap.size 9 i0 (.string ⟨#[]⟩) 1 16 strsKind hi hz0 hz1 hz2 rfl (by decide) _ _ _ rfl (World.ownsRow.alloc HOWN.out _) ⟨wr.heap.size, 0, none⟩ 1 1 [.string (f k)] rfl rfl (news_str _ _) (one_str _) (by decide) ?c3 ?c4 ?c5 _ rfl ?_)
        case c3 => unfold maxLen; omega
        case c4 => omega
        case c5 => have := HBW.out.size; rw [heap_new_size]; omega
        intro gg cap2 w4 hown4 hgrow _ _
        have R : Own w4 w2.heap.size (.slice (some ⟨gg, 0, none⟩) ((keptL k f m g).length + 1) cap2) (keptL (k + 1) f m g) := by rw [keptL_hit HP.out]; exact Own.more hown4
        have RB : Below w2.heap.size w2 w4 := (HBW.out.alloc HBW.out.size _).grown hgrow (by have := HBW.out.size; rw [heap_new_size]; omega) (fun q e => (HOWN.out.lt q e).1)
        have HR := Lib.hid R
        have HRB := Lib.hid RB
        clear R RB hown4 hgrow
        go_wp2
        go_roundw
        case rel => exact ⟨k + 1, by omega, by go_num, HR.out, HRB.out⟩
        case measure => simp [intOf]; omega
      · have hp' : anyPre (f k) m g = false := by simpa using hp
        have hsk : skUpto n f m g k = true := by unfold skUpto; rw [hp', decide_eq_true hlt]; rfl
        rw [hsk] at hc3
        have R : Own wr w2.heap.size u4 (keptL (k + 1) f m g) := by rw [keptL_miss hp']; exact HOWN.out
        have HR := Lib.hid R
        clear hp hp' hsk R
        go_wp2
        go_roundw
        case rel => exact ⟨k + 1, by omega, by go_num, HR.out, HBW.out⟩
        case measure => simp [intOf]; omega
    · obtain rfl : k = n := by omega
      clear hown hbel
      go_wp2
      go_ret
      exact ⟨_, rfl, HOWN.out.mono HB2.out.size, HB2.out.trans (HBW.out.mono HB2.out.size)⟩
end Go.Proofs.Ytdmkjfkdjhmpjaa
