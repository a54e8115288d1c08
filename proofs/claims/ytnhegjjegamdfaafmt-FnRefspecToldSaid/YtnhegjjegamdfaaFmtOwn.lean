/- A list of strings that the call made. -/
import Derived.Test.YtnhegjjegamdfaaFmtStrs
import Derived.Deep.AppendLies
import Derived.OwnWalk
namespace Go.Proofs.YtnhegjjegamdfaaFmt
open Go.RowKit
set_option linter.unusedSimpArgs false
set_option linter.unusedVariables false

theorem strInfo : (Tryf.prog.info? 9).map (fun i => (i.zero, i.size, i.bytes)) = some (some (.string ⟨#[]⟩), 1, 16) := by kernel_rfl
theorem strsKind : Tryf.prog.underlying 39 = some (.slice 9) := by kernel_rfl
def Own (w : World) (B : Nat) (v : Value) (L : List ByteArray) : Prop := w.ownsRow B 9 1 v L.length (L.map Value.string)
theorem Own.nil (w : World) (B : Nat) : Own w B (.slice none 0 0) [] := World.ownsRow_nil _ _ _ _
theorem Own.strs {w : World} {B : Nat} {v : Value} {L : List ByteArray} (h : Own w B v L) : ∃ A c, v = .slice A L.length c ∧ L.length ≤ maxLen ∧ Strs w A L.length (fun i => L.getD i ⟨#[]⟩) := by
  rcases h.2 with ⟨rfl, h0⟩ | ⟨g, cap, cur, rfl, _, hg, hn, hm, _⟩
  · refine ⟨none, 0, by rw [h0], by omega, fun i hi => by omega⟩
  · refine ⟨_, cap, rfl, Nat.le_trans hn hm, fun i hi => ⟨g, 0, rfl, (Array.getElem?_eq_some_iff.1 hg).1, ?_⟩⟩
    have hc := h.cells (g := g) rfl i (.string (L.getD i ⟨#[]⟩)) (by simp [List.getD_eq_getElem?_getD, hi])
    have hadd : (⟨g, 0, none⟩ : Addr).add i = ⟨g, 0 + i, none⟩ := by unfold Addr.add; split <;> simp_all
    rwa [hadd] at hc

/-- What an append onto a list of the call's own needs and gives. -/
theorem Own.more {w1 : World} {B g cap : Nat} {L : List ByteArray} {s : ByteArray}
    (hown : w1.ownsRow B 9 1 (.slice (some ⟨g, 0, none⟩) (L.length + 1) cap) (L.length + 1) (L.map Value.string ++ [.string s])) :
    Own w1 B (.slice (some ⟨g, 0, none⟩) (L.length + 1) cap) (L ++ [s]) := by
  unfold Own
  rw [List.map_append, List.length_append]
  exact hown

theorem Own.mono {w : World} {B B' : Nat} {v : Value} {L : List ByteArray} (h : Own w B v L) (hB : B' ≤ B) : Own w B' v L := by
  refine ⟨h.1, ?_⟩
  rcases h.2 with hn | ⟨g, cap, cur, rfl, hbg, rest⟩
  · exact .inl hn
  · exact .inr ⟨g, cap, cur, rfl, Nat.le_trans hB hbg, rest⟩
theorem Own.below {w w1 : World} {B : Nat} {v : Value} {L : List ByteArray} (h : Own w B v L) (hb : Below w.heap.size w w1) : Own w1 B v L := by
  refine ⟨h.1, ?_⟩
  rcases h.2 with hn | ⟨g, cap, cur, rfl, hbg, hgg, rest⟩
  · exact .inl hn
  · exact .inr ⟨g, cap, cur, rfl, hbg, by rw [hb.block g (Array.getElem?_eq_some_iff.1 hgg).1]; exact hgg, rest⟩
theorem news_str (w : World) (s : ByteArray) : ∀ (j : Nat) (u : Value), [Value.string s][j]? = some u → (w.alloc (.cells #[.string s] 9)).cell? ((⟨w.heap.size, 0, none⟩ : Addr).add j) = some u := by
  intro j u hj
  match j, hj with
  | 0, hj =>
    simp at hj; subst hj
    exact World.cell?_alloc_mark w #[Value.string s] 9 (0, 0) 0
theorem one_str (s : ByteArray) : ∀ u ∈ [Value.string s], u.oneCell' = true := by
  intro u hu; simp at hu; subst hu; rfl

end Go.Proofs.YtnhegjjegamdfaaFmt
