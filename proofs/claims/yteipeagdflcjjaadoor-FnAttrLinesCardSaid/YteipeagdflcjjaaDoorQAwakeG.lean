/- A pattern's Match. -/
import Derived.Test.YteipeagdflcjjaaDoorQGlobM
import Derived.Deep.RegionLaw
import Derived.Deep.RegionHeld3
import Derived.Outline
namespace Go.Proofs.YteipeagdflcjjaaDoor
open Go.RowKit
set_option linter.unusedSimpArgs false
set_option linter.unusedVariables false

noncomputable def matchL (PL : List ByteArray) (behind isDir : Bool) (path : List ByteArray) : Bool :=
  if 2 ≤ PL.length then gres behind isDir (gfold Mt CC PL false false path) else simple Mt (PL.getD 0 ⟨#[]⟩) behind isDir path
def one (b : Bool) : Int := if b = true then 1 else 0

structure PatOk (PL : List ByteArray) : Prop where
  parts : ∀ p ∈ PL, nb p = [] ∨ nb p = [42, 42] ∨ GoodPart p
  one : PL.length = 1 → ∀ p ∈ PL, GoodPart p
  len : 1 ≤ PL.length ∧ PL.length ≤ 10
theorem PatText.ok {t : ByteArray} {behind : Bool} {PL : List ByteArray} (h : PatText t behind PL) : PatOk PL := ⟨h.parts, h.one, h.len⟩
theorem getD_mem (L : List ByteArray) (k : Nat) (h : k < L.length) : L.getD k ⟨#[]⟩ ∈ L := by
  rw [List.getD_eq_getElem?_getD, List.getElem?_eq_getElem h]; exact List.getElem_mem _

def IntBelow (z : Int) (w : World) (e : Ending) (w' : World) : Prop := e = .returned (.int .i64 z) ∧ Below w.heap.size w w'

set_option maxRecDepth 100000 in
set_option maxHeartbeats 4000000 in
theorem meth_any (b : Nat) (PL : List ByteArray) (behind isDir : Bool) (bp op n c : Nat) (f : Nat → ByteArray) (w : World)
    (ho : PatObj w b PL behind) (hk : PatOk PL) (hn1 : 1 ≤ n) (hn : n ≤ 100) (hnc : n ≤ c) (hc : c ≤ 9223372036854775807) (hp : Strs w (some ⟨bp, op, none⟩) n f) (hnm : ∀ i, i < n → NameOk (f i)) :
    Calls Tryd.prog 128 #[.pointer (some ⟨b, 0, none⟩), .slice (some ⟨bp, op, none⟩) n c, .bool isDir] w (IntBelow (one (matchL PL behind isDir (pathL f n))) w) := by
  have HO := Lib.hid ho; clear ho
  have HP := Lib.hid hp; clear hp
  have HN := Lib.hid hnm; clear hnm
  have HK := Lib.hid hk; clear hk
  generalize hG : matchL PL behind isDir (pathL f n) = G
  have HG := Lib.hid hG; clear hG
  obtain ⟨A1, c1, hrow, _⟩ := HO.out.row
  obtain ⟨r0, r1, r2, r3, r4⟩ := hrow.cells
  clear hrow
  have hn0 : ¬ (n : Int) ≤ 0 := by omega
  have hc0 : ¬ c = 0 := by omega
  go_enter Tryd.func128, Tryd.ntmps128
  by_cases h2 : 2 ≤ PL.length
  · rw [decide_eq_true h2] at r4
    have HG2 : Hid (gres behind isDir (gfold Mt CC PL false false (pathL f n)) = G) := Lib.hid (by rw [← HG.out]; unfold matchL; rw [if_pos h2])
    go_wp2
    go_loop [22] (fun i => i = .int .i64 0) (fun i => 0)
    case atStart => rfl
    case round =>
      obtain rfl := hrel
      go_wp2_with fail
      with_reducible refine (globMatch_any b PL behind isDir _ n c f _ HO.out HK.out.len.2 HK.out.parts hn hnc hc HP.out HN.out).mono ?_
      rintro e w' ⟨rfl, hb⟩
      rw [HG2.out]
      obtain ⟨A2, c2, hrow2, _⟩ := (HO.out.below hb).row
      obtain ⟨s0, s1, s2, s3, s4⟩ := hrow2.cells
      rw [decide_eq_true h2] at s4
      have HB := Lib.hid hb; clear hb hrow2
      clear r0 r1 r2 r3 r4 s0 s1 s3
      cases G <;> go_wp2 <;> go_ret
      · exact ⟨rfl, HB.out⟩
      · exact ⟨rfl, HB.out⟩
  · rw [decide_eq_false h2] at r4
    have h1 : PL.length = 1 := by have := HK.out.len.1; omega
    have HG2 : Hid (simple Mt (PL.getD 0 ⟨#[]⟩) behind isDir (pathL f n) = G) := Lib.hid (by rw [← HG.out]; unfold matchL; rw [if_neg h2])
    go_wp2
    go_loop [22] (fun i => i = .int .i64 0) (fun i => 0)
    case atStart => rfl
    case round =>
      obtain rfl := hrel
      go_wp2_with fail
      with_reducible refine (simple_any b PL behind isDir _ n c f _ HO.out h1 (HK.out.one h1 _ (getD_mem PL 0 (by omega))) hn HP.out HN.out).mono ?_
      rintro e w' ⟨rfl, hb⟩
      rw [HG2.out]
      obtain ⟨A2, c2, hrow2, _⟩ := (HO.out.below hb).row
      obtain ⟨s0, s1, s2, s3, s4⟩ := hrow2.cells
      rw [decide_eq_false h2] at s4
      have HB := Lib.hid hb; clear hb hrow2
      clear r0 r1 r2 r3 r4 s0 s1 s3
      cases G <;> go_wp2 <;> go_ret
      · exact ⟨rfl, HB.out⟩
      · exact ⟨rfl, HB.out⟩
end Go.Proofs.YteipeagdflcjjaaDoor
/- IgnoreOne. -/
namespace Go.Proofs.YteipeagdflcjjaaDoor
open Go.RowKit
set_option linter.unusedSimpArgs false
set_option linter.unusedVariables false

theorem pathL_length (f : Nat → ByteArray) (n : Nat) : (pathL f n).length = n := by unfold pathL; rw [List.length_map, List.length_range]
theorem pathL_get (f : Nat → ByteArray) (n j : Nat) (h : j < n) : (pathL f n)[j]? = some (f j) := by
  unfold pathL
  rw [List.getElem?_map, List.getElem?_range h]; rfl
theorem path_news {w : World} {bp op n : Nat} {f : Nat → ByteArray} (h : Strs w (some ⟨bp, op, none⟩) n f) : ∀ j u, ((pathL f n).map Value.string)[j]? = some u → w.cell? ((⟨bp, op, none⟩ : Addr).add j) = some u := by
  intro j u hu
  have hj : j < n := by
    rw [← pathL_length f n, ← List.length_map (f := Value.string)]
    exact (List.getElem?_eq_some_iff.mp hu).1
  rw [List.getElem?_map, pathL_get f n j hj] at hu
  have hu2 : Value.string (f j) = u := Option.some.inj hu
  subst hu2
  obtain ⟨b, off, e, _, hc⟩ := h.at j hj
  obtain ⟨rfl, rfl⟩ : bp = b ∧ op = off := by simpa using e
  have hadd : (⟨bp, op, none⟩ : Addr).add j = ⟨bp, op + j, none⟩ := by unfold Addr.add; split <;> simp_all
  rw [hadd]; exact hc
theorem path_one (L : List ByteArray) : ∀ u ∈ L.map Value.string, u.oneCell' = true := by
  intro u hu
  obtain ⟨s, _, rfl⟩ := List.mem_map.mp hu
  rfl
theorem path_own {w : World} {B g n cap : Nat} {f : Nat → ByteArray} (h : w.ownsRow B 9 1 (.slice (some ⟨g, 0, none⟩) (0 + n) cap) (0 + n) ([] ++ (pathL f n).map Value.string)) : Strs w (some ⟨g, 0, none⟩) n f ∧ n ≤ cap ∧ cap ≤ maxLen := by
  rw [Nat.zero_add, List.nil_append] at h
  have ho : Own w B (.slice (some ⟨g, 0, none⟩) n cap) (pathL f n) := by unfold Own; rw [pathL_length]; exact h
  obtain ⟨A, c, hv, _, hs⟩ := ho.strs
  obtain ⟨rfl, _, rfl⟩ := Value.slice.inj hv
  refine ⟨fun i hi => ?_, ?_⟩
  · obtain ⟨b, off, e, h1, h2⟩ := hs i (by rw [pathL_length]; exact hi)
    refine ⟨b, off, e, h1, ?_⟩
    have h3 : (pathL f n).getD i ⟨#[]⟩ = f i := by rw [List.getD_eq_getElem?_getD, pathL_get f n i hi]; rfl
    dsimp only at h2
    rw [h3] at h2
    exact h2
  · rcases h.2 with ⟨h0, _⟩ | ⟨g', cap', cur, hv, _, hg, hn, hm, _⟩
    · cases h0
    · cases hv
      exact ⟨hn, hm⟩

set_option maxRecDepth 100000 in
set_option maxHeartbeats 4000000 in
theorem one_any (t : ByteArray) (behind : Bool) (PL : List ByteArray) (isDir : Bool) (bp op n c : Nat) (f : Nat → ByteArray) (w : World)
    (ht : PatText t behind PL) (hn1 : 1 ≤ n) (hn : n ≤ 100) (hp : Strs w (some ⟨bp, op, none⟩) n f) (hnm : ∀ i, i < n → NameOk (f i)) :
    Calls Tryd.prog 39 #[.string t, .slice none 0 0, .slice (some ⟨bp, op, none⟩) n c, .bool isDir] w (IntBelow (one (matchL PL behind isDir (pathL f n))) w) := by
  have HT := Lib.hid ht; clear ht
  have HP := Lib.hid hp; clear hp
  have HN := Lib.hid hnm; clear hnm
  obtain ⟨i0, hi, hz0, hz1, hz2⟩ := info_parts strInfo
  have hl1 : ((pathL f n).map Value.string).length = n * 1 := by rw [List.length_map, pathL_length, Nat.mul_one]
  have HL1 := Lib.hid hl1; clear hl1
  have hna : ∀ (b : Nat) (w : World), (nilAhead 321 151 (.pointer (some ⟨b, 0, none⟩)) "Match").run Tryd.prog w = .ok (some false) w := fun _ _ => by kernel_rfl
  have hme : ∀ (b : Nat) (w : World), (method 321 151 (.pointer (some ⟨b, 0, none⟩)) "Match").run Tryd.prog w = .ok (128, .pointer (some ⟨b, 0, none⟩)) w := fun _ _ => by kernel_rfl
  go_enter Tryd.func39, Tryd.ntmps39
  go_upto_region 1 with (fail)
  go_region_law (first | (go_simp; go_at_call 54; refine (parse_any t behind PL _ HT.out).mono ?_; rintro e w2 ⟨b, rfl, ho, hb⟩; have HO := Lib.hid ho; have HB : Hid (Below w.heap.size w w2) := Lib.hid (by first | exact hb | exact (Below.refl _ _).drew.trans hb); clear ho hb) | (refine step_append_lies _ rfl (.const (.slice none 0 0)) (.tmp 13) 23 rfl w.heap.size 9 i0 (.string ⟨#[]⟩) 1 16 strsKind hi hz0 hz1 hz2 rfl (by decide) (.slice none 0 0) 0 [] rfl (World.ownsRow_nil _ _ _ _) ⟨bp, op, none⟩ n c ((pathL f n).map Value.string) rfl HL1.out (path_news (HP.out.below (by first | exact HB.out | exact HB.out.alloc HB.out.size _))) (path_one _) (by omega) (by unfold maxLen; omega) (by omega) (by first | exact HB.out.size | (have := HB.out.size; rw [heap_new_size]; omega)) _ rfl ?_; intro gg cap2 w5 hown hgrow hgq _; have HQ := Lib.hid (path_own hown); have HB5 : Hid (Below w2.heap.size w2 w5) := Lib.hid ((Below.refl w2.heap.size w2).grown hgrow (Nat.le_refl _) (fun q e => by cases e)); have HO5 := Lib.hid (HO.out.below HB5.out); clear hown hgrow hgq) | (go_simp; go_at_call 128; refine (meth_any b PL behind isDir gg 0 n cap2 f _ HO5.out HT.out.ok hn1 hn HQ.out.2.1 (Nat.le_trans HQ.out.2.2 (by decide)) HQ.out.1 HN.out).mono ?_; rintro e w6 ⟨rfl, hb6⟩; have HB6 := Lib.hid hb6; clear hb6))
  all_goals
    go_wp2
    go_ret
    have HB7 := HB.out.trans (HB5.out.mono HB.out.size)
    exact ⟨rfl, HB7.trans (HB6.out.mono HB7.size)⟩
end Go.Proofs.YteipeagdflcjjaaDoor
/- globAwake. -/
namespace Go.Proofs.YteipeagdflcjjaaDoor
open Go.RowKit
set_option linter.unusedSimpArgs false
set_option linter.unusedVariables false

theorem toks_lit (x : Nat) (hx : x = 97) (T : List Tok) (h : texts T = [x]) (hg : ∀ t ∈ T, Tok.good t) : T = [.lit x] := by
  cases T with
  | nil => cases h
  | cons t r =>
    rw [texts_cons] at h
    have hr : ∀ c : Nat, [c] ++ texts r = [x] → c = x ∧ r = [] := by
      intro c hc
      obtain ⟨h1, h2⟩ := List.cons.inj hc
      exact ⟨h1, (texts_nil_iff r).mp h2⟩
    cases t with
    | star => have := (hr 42 h).1; omega
    | any => have := (hr 63 h).1; omega
    | lit c => obtain ⟨rfl, rfl⟩ := hr c h; rfl
    | esc c => have h2 : 92 :: (c :: texts r) = [x] := h; have := (List.cons.inj h2).1; omega
    | set neg items => have h2 : 91 :: _ = [x] := h; have := (List.cons.inj h2).1; omega
theorem good_a : GoodPart ⟨#[97]⟩ := ⟨[.lit 97], rfl, fun t ht => by rw [List.mem_singleton] at ht; subst ht; exact .inl ⟨by decide, by decide⟩, by decide, by decide⟩
theorem toks_a : toksOf ⟨#[97]⟩ = [.lit 97] := by
  obtain ⟨h1, h2, _⟩ := toks_spec good_a
  exact toks_lit 97 rfl _ h1.symm h2
theorem Mt_aa : Mt ⟨#[97]⟩ ⟨#[97]⟩ = true := by unfold Mt; rw [toks_a]; rfl
theorem Mt_ab : Mt ⟨#[97]⟩ ⟨#[98]⟩ = false := by unfold Mt; rw [toks_a]; rfl
theorem awakePat : PatText ⟨#[97]⟩ false [⟨#[97]⟩] :=
  pat_text (f := fun _ => ⟨#[97]⟩) (n := 1) (ahead := false) (behind := false) (by decide) (by decide) (fun i _ => .inl good_a) rfl (by decide)
theorem awake_yes : matchL [⟨#[97]⟩] false false (pathL (fun _ => ⟨#[97]⟩) 1) = true := by
  show simple Mt ⟨#[97]⟩ false false [⟨#[97]⟩] = true
  unfold simple
  rw [if_pos Mt_aa]; rfl
theorem awake_no : matchL [⟨#[97]⟩] false false (pathL (fun _ => ⟨#[98]⟩) 1) = false := by
  show simple Mt ⟨#[97]⟩ false false [⟨#[98]⟩] = false
  unfold simple
  rw [if_neg (by rw [Mt_ab]; decide)]; rfl
theorem name_a : NameOk ⟨#[97]⟩ := ⟨⟨fun c hc => by simp [nb] at hc; omega, by decide⟩, by decide, by decide⟩
theorem name_b : NameOk ⟨#[98]⟩ := ⟨⟨fun c hc => by simp [nb] at hc; omega, by decide⟩, by decide, by decide⟩
theorem strs_one (w : World) (s : ByteArray) : Strs (w.alloc (.cells #[.string s] 9)) (some ⟨w.heap.size, 0, none⟩) 1 (fun _ => s) := by
  intro i hi
  obtain rfl : i = 0 := by omega
  exact ⟨w.heap.size, 0, rfl, by simp, World.cell?_alloc_mark w #[Value.string s] 9 (0, 0) 0⟩

def TrueBelow (w : World) (e : Ending) (w' : World) : Prop := e = .returned (.bool true) ∧ Below w.heap.size w w'
set_option maxRecDepth 100000 in
set_option maxHeartbeats 2000000 in
theorem awake_any (w : World) : Calls Tryd.prog 23 #[] w (TrueBelow w) := by
  go_enter Tryd.func23, Tryd.ntmps23
  go_wp2_with fail
  with_reducible refine (one_any ⟨#[97]⟩ false _ false _ 0 1 1 (fun _ => ⟨#[97]⟩) _ awakePat (by decide) (by decide) (strs_one _ _) (fun _ _ => name_a)).mono ?_
  rintro e w1 ⟨rfl, hb⟩
  rw [awake_yes]
  have HB : Hid (Below w.heap.size w w1) := Lib.hid (((Below.refl w.heap.size w).alloc (Nat.le_refl _) _).trans (hb.mono (by simp)))
  clear hb
  have h1 : one true = 1 := rfl
  rw [h1]
  go_wp2_with fail
  with_reducible refine (one_any ⟨#[97]⟩ false _ false _ 0 1 1 (fun _ => ⟨#[98]⟩) _ awakePat (by decide) (by decide) (strs_one _ _) (fun _ _ => name_b)).mono ?_
  rintro e w2 ⟨rfl, hb⟩
  rw [awake_no]
  have HB2 : Hid (Below w.heap.size w w2) := Lib.hid ((HB.out.alloc HB.out.size _).trans (hb.mono (by have := HB.out.size; simp; omega)))
  clear hb
  have h2 : one false = 0 := rfl
  rw [h2]
  go_wp2
  go_ret
  exact ⟨rfl, HB2.out⟩
end Go.Proofs.YteipeagdflcjjaaDoor
