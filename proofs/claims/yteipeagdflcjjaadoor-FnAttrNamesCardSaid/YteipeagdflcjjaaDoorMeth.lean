/- A pattern's Match. -/
import Derived.Test.YteipeagdflcjjaaDoorGlobM
namespace Go.Proofs.YteipeagdflcjjaaDoor
open Go.RowKit
set_option linter.unusedSimpArgs false
set_option linter.unusedVariables false

noncomputable def matchL (PL : List ByteArray) (behind isDir : Bool) (path : List ByteArray) : Bool :=
  if 2 ≤ PL.length then gres behind isDir (gfold Mt CC PL false false path) else simple Mt (PL.getD 0 ⟨#[]⟩) behind isDir path
def one (b : Bool) : Int := if b = true then 1 else 0

structure PatOk (PL : List ByteArray) : Prop where
  parts : ∀ p ∈ PL, nb p = [] ∨ nb p = [42, 42] ∨ GoodPart p
  one : PL.length = 1 → ∀ p ∈ PL, GoodPart p
  len : 1 ≤ PL.length ∧ PL.length ≤ 10
theorem PatText.ok {t : ByteArray} {behind : Bool} {PL : List ByteArray} (h : PatText t behind PL) : PatOk PL := ⟨h.parts, h.one, h.len⟩
theorem getD_mem (L : List ByteArray) (k : Nat) (h : k < L.length) : L.getD k ⟨#[]⟩ ∈ L := by
  rw [List.getD_eq_getElem?_getD, List.getElem?_eq_getElem h]; exact List.getElem_mem _

def IntBelow (z : Int) (w : World) (e : Ending) (w' : World) : Prop := e = .returned (.int .i64 z) ∧ Below w.heap.size w w'

set_option maxRecDepth 100000 in
set_option maxHeartbeats 4000000 in
theorem meth_any (b : Nat) (PL : List ByteArray) (behind isDir : Bool) (bp op n c : Nat) (f : Nat → ByteArray) (w : World)
    (ho : PatObj w b PL behind) (hk : PatOk PL) (hn1 : 1 ≤ n) (hn : n ≤ 100) (hnc : n ≤ c) (hc : c ≤ 9223372036854775807) (hp : Strs w (some ⟨bp, op, none⟩) n f) (hnm : ∀ i, i < n → NameOk (f i)) :
    Calls Tryd.prog 128 #[.pointer (some ⟨b, 0, none⟩), .slice (some ⟨bp, op, none⟩) n c, .bool isDir] w (IntBelow (one (matchL PL behind isDir (pathL f n))) w) := by
  have HO := Lib.hid ho; clear ho
  have HP := Lib.hid hp; clear hp
  have HN := Lib.hid hnm; clear hnm
  have HK := Lib.hid hk; clear hk
  generalize hG : matchL PL behind isDir (pathL f n) = G
  have HG := Lib.hid hG; clear hG
  obtain ⟨A1, c1, hrow, _⟩ := HO.out.row
  obtain ⟨r0, r1, r2, r3, r4⟩ := hrow.cells
  clear hrow
  have hn0 : ¬ (n : Int) ≤ 0 := by omega
  have hc0 : ¬ c = 0 := by omega
  go_enter Tryd.func128, Tryd.ntmps128
  by_cases h2 : 2 ≤ PL.length
  · rw [decide_eq_true h2] at r4
    have HG2 : Hid (gres behind isDir (gfold Mt CC PL false false (pathL f n)) = G) := Lib.hid (by rw [← HG.out]; unfold matchL; rw [if_pos h2])
    go_wp2
    go_loop [22] (fun i => i = .int .i64 0) (fun i => 0)
    case atStart => rfl
    case round =>
      obtain rfl := hrel
      go_wp2_with fail
      with_reducible refine (globMatch_any b PL behind isDir _ n c f _ HO.out HK.out.len.2 HK.out.parts hn hnc hc HP.out HN.out).mono ?_
      rintro e w' ⟨rfl, hb⟩
      rw [HG2.out]
      obtain ⟨A2, c2, hrow2, _⟩ := (HO.out.below hb).row
      obtain ⟨s0, s1, s2, s3, s4⟩ := hrow2.cells
      rw [decide_eq_true h2] at s4
      have HB := Lib.hid hb; clear hb hrow2
      clear r0 r1 r2 r3 r4 s0 s1 s3
      cases G <;> go_wp2 <;> go_ret
      · exact ⟨rfl, HB.out⟩
      · exact ⟨rfl, HB.out⟩
  · rw [decide_eq_false h2] at r4
    have h1 : PL.length = 1 := by have := HK.out.len.1; omega
    have HG2 : Hid (simple Mt (PL.getD 0 ⟨#[]⟩) behind isDir (pathL f n) = G) := Lib.hid (by rw [← HG.out]; unfold matchL; rw [if_neg h2])
    go_wp2
    go_loop [22] (fun i => i = .int .i64 0) (fun i => 0)
    case atStart => rfl
    case round =>
      obtain rfl := hrel
      go_wp2_with fail
      with_reducible refine (simple_any b PL behind isDir _ n c f _ HO.out h1 (HK.out.one h1 _ (getD_mem PL 0 (by omega))) hn HP.out HN.out).mono ?_
      rintro e w' ⟨rfl, hb⟩
      rw [HG2.out]
      obtain ⟨A2, c2, hrow2, _⟩ := (HO.out.below hb).row
      obtain ⟨s0, s1, s2, s3, s4⟩ := hrow2.cells
      rw [decide_eq_false h2] at s4
      have HB := Lib.hid hb; clear hb hrow2
      clear r0 r1 r2 r3 r4 s0 s1 s3
      cases G <;> go_wp2 <;> go_ret
      · exact ⟨rfl, HB.out⟩
      · exact ⟨rfl, HB.out⟩
end Go.Proofs.YteipeagdflcjjaaDoor
