/- IgnoreOne. -/
import Derived.Test.YteipeagdflcjjaaDoorMeth
import Derived.Deep.RegionLaw
import Derived.Deep.RegionHeld3
import Derived.Outline
namespace Go.Proofs.YteipeagdflcjjaaDoor
open Go.RowKit
set_option linter.unusedSimpArgs false
set_option linter.unusedVariables false

theorem pathL_length (f : Nat → ByteArray) (n : Nat) : (pathL f n).length = n := by unfold pathL; rw [List.length_map, List.length_range]
theorem pathL_get (f : Nat → ByteArray) (n j : Nat) (h : j < n) : (pathL f n)[j]? = some (f j) := by
  unfold pathL
  rw [List.getElem?_map, List.getElem?_range h]; rfl
theorem path_news {w : World} {bp op n : Nat} {f : Nat → ByteArray} (h : Strs w (some ⟨bp, op, none⟩) n f) : ∀ j u, ((pathL f n).map Value.string)[j]? = some u → w.cell? ((⟨bp, op, none⟩ : Addr).add j) = some u := by
  intro j u hu
  have hj : j < n := by
    rw [← pathL_length f n, ← List.length_map (f := Value.string)]
    exact (List.getElem?_eq_some_iff.mp hu).1
  rw [List.getElem?_map, pathL_get f n j hj] at hu
  have hu2 : Value.string (f j) = u := Option.some.inj hu
  subst hu2
  obtain ⟨b, off, e, _, hc⟩ := h.at j hj
  obtain ⟨rfl, rfl⟩ : bp = b ∧ op = off := by simpa using e
  have hadd : (⟨bp, op, none⟩ : Addr).add j = ⟨bp, op + j, none⟩ := by unfold Addr.add; split <;> simp_all
  rw [hadd]; exact hc
theorem path_one (L : List ByteArray) : ∀ u ∈ L.map Value.string, u.oneCell' = true := by
  intro u hu
  obtain ⟨s, _, rfl⟩ := List.mem_map.mp hu
  rfl
theorem path_own {w : World} {B g n cap : Nat} {f : Nat → ByteArray} (h : w.ownsRow B 9 1 (.slice (some ⟨g, 0, none⟩) (0 + n) cap) (0 + n) ([] ++ (pathL f n).map Value.string)) : Strs w (some ⟨g, 0, none⟩) n f ∧ n ≤ cap ∧ cap ≤ maxLen := by
  rw [Nat.zero_add, List.nil_append] at h
  have ho : Own w B (.slice (some ⟨g, 0, none⟩) n cap) (pathL f n) := by unfold Own; rw [pathL_length]; exact h
  obtain ⟨A, c, hv, _, hs⟩ := ho.strs
  obtain ⟨rfl, _, rfl⟩ := Value.slice.inj hv
  refine ⟨fun i hi => ?_, ?_⟩
  · obtain ⟨b, off, e, h1, h2⟩ := hs i (by rw [pathL_length]; exact hi)
    refine ⟨b, off, e, h1, ?_⟩
    have h3 : (pathL f n).getD i ⟨#[]⟩ = f i := by rw [List.getD_eq_getElem?_getD, pathL_get f n i hi]; rfl
    dsimp only at h2
    rw [h3] at h2
    exact h2
  · rcases h.2 with ⟨h0, _⟩ | ⟨g', cap', cur, hv, _, hg, hn, hm, _⟩
    · cases h0
    · cases hv
      exact ⟨hn, hm⟩

set_option maxRecDepth 100000 in
set_option maxHeartbeats 4000000 in
theorem one_any (t : ByteArray) (behind : Bool) (PL : List ByteArray) (isDir : Bool) (bp op n c : Nat) (f : Nat → ByteArray) (w : World)
    (ht : PatText t behind PL) (hn1 : 1 ≤ n) (hn : n ≤ 100) (hp : Strs w (some ⟨bp, op, none⟩) n f) (hnm : ∀ i, i < n → NameOk (f i)) :
    Calls Tryd.prog 39 #[.string t, .slice none 0 0, .slice (some ⟨bp, op, none⟩) n c, .bool isDir] w (IntBelow (one (matchL PL behind isDir (pathL f n))) w) := by
  have HT := Lib.hid ht; clear ht
  have HP := Lib.hid hp; clear hp
  have HN := Lib.hid hnm; clear hnm
  obtain ⟨i0, hi, hz0, hz1, hz2⟩ := info_parts strInfo
  have hl1 : ((pathL f n).map Value.string).length = n * 1 := by rw [List.length_map, pathL_length, Nat.mul_one]
  have HL1 := Lib.hid hl1; clear hl1
  have hna : ∀ (b : Nat) (w : World), (nilAhead 321 151 (.pointer (some ⟨b, 0, none⟩)) "Match").run Tryd.prog w = .ok (some false) w := fun _ _ => by kernel_rfl
  have hme : ∀ (b : Nat) (w : World), (method 321 151 (.pointer (some ⟨b, 0, none⟩)) "Match").run Tryd.prog w = .ok (128, .pointer (some ⟨b, 0, none⟩)) w := fun _ _ => by kernel_rfl
  go_enter Tryd.func39, Tryd.ntmps39
  go_upto_region 1 with (fail)
  go_region_law (first | (go_simp; go_at_call 54; refine (parse_any t behind PL _ HT.out).mono ?_; rintro e w2 ⟨b, rfl, ho, hb⟩; have HO := Lib.hid ho; have HB : Hid (Below w.heap.size w w2) := Lib.hid (by first | exact hb | exact (Below.refl _ _).drew.trans hb); clear ho hb) | (refine step_append_lies _ rfl (.const (.slice none 0 0)) (.tmp 13) 23 rfl w.heap.size 9 i0 (.string ⟨#[]⟩) 1 16 strsKind hi hz0 hz1 hz2 rfl (by decide) (.slice none 0 0) 0 [] rfl (World.ownsRow_nil _ _ _ _) ⟨bp, op, none⟩ n c ((pathL f n).map Value.string) rfl HL1.out (path_news (HP.out.below (by first | exact HB.out | exact HB.out.alloc HB.out.size _))) (path_one _) (by omega) (by unfold maxLen; omega) (by omega) (by first | exact HB.out.size | (have := HB.out.size; rw [heap_new_size]; omega)) _ rfl ?_; intro gg cap2 w5 hown hgrow hgq _; have HQ := Lib.hid (path_own hown); have HB5 : Hid (Below w2.heap.size w2 w5) := Lib.hid ((Below.refl w2.heap.size w2).grown hgrow (Nat.le_refl _) (fun q e => by cases e)); have HO5 := Lib.hid (HO.out.below HB5.out); clear hown hgrow hgq) | (go_simp; go_at_call 128; refine (meth_any b PL behind isDir gg 0 n cap2 f _ HO5.out HT.out.ok hn1 hn HQ.out.2.1 (Nat.le_trans HQ.out.2.2 (by decide)) HQ.out.1 HN.out).mono ?_; rintro e w6 ⟨rfl, hb6⟩; have HB6 := Lib.hid hb6; clear hb6))
  all_goals
    go_wp2
    go_ret
    have HB7 := HB.out.trans (HB5.out.mono HB.out.size)
    exact ⟨rfl, HB7.trans (HB6.out.mono HB7.size)⟩
end Go.Proofs.YteipeagdflcjjaaDoor
