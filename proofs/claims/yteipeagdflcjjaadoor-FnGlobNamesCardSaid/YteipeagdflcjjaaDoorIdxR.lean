/- An index of names, as it is read. -/
import Derived.Test.YteipeagdflcjjaaDoorIdx
import Derived.Test.YteipeagdflcjjaaDoorOwn
namespace Go.Proofs.YteipeagdflcjjaaDoor
open Go.RowKit
set_option linter.unusedSimpArgs false
set_option linter.unusedVariables false

theorem Idx.form {w : World} {B I n : Nat} {f : Nat → ByteArray} {sk : Nat → Bool} {v : Value} {e : Nat → Nat} (h : Idx w B I n f sk v e) :
    ∃ A cap, v = .slice A n cap ∧ n ≤ maxLen := by
  rcases h.own.2 with ⟨rfl, rfl⟩ | ⟨g, cap, cur, rfl, _, _, hn, hm, _⟩
  · exact ⟨none, 0, rfl, Nat.zero_le _⟩
  · exact ⟨_, cap, rfl, Nat.le_trans hn hm⟩
theorem Idx.rd {w : World} {B I n cap : Nat} {f : Nat → ByteArray} {sk : Nat → Bool} {A : Option Addr} {e : Nat → Nat} (h : Idx w B I n f sk (.slice A n cap) e) (k : Nat) (hk : k < n) :
    ∃ g, A = some ⟨g, 0, none⟩ ∧ w.cell? ⟨g, k, none⟩ = some (.pointer (some ⟨e k, 0, none⟩)) ∧ w.cell? ⟨e k, 20, none⟩ = some (.string (f k)) ∧ w.cell? ⟨e k, 32, none⟩ = some (.bool (sk k)) ∧ w.frozen? ⟨e k, 32, none⟩ = false ∧ B ≤ e k := by
  obtain ⟨h1, h2, h3, h4, h5⟩ := h.ents k hk
  rcases h.own.2 with ⟨h, rfl⟩ | ⟨g, cap', cur, hv, _⟩
  · omega
  · injection hv with e1 e2 e3
    subst e1
    have hc := h.own.cells (g := g) rfl k (.pointer (some ⟨e k, 0, none⟩)) (by unfold ptrs; rw [List.getElem?_map, List.getElem?_range hk]; rfl)
    refine ⟨g, rfl, ?_, h5.name, h5.skip, h5.free, h1⟩
    have hadd : (⟨g, 0, none⟩ : Addr).add k = ⟨g, k, none⟩ := by unfold Addr.add; split <;> simp_all
    rwa [hadd] at hc
theorem Idx.below {w w1 : World} {B I n : Nat} {f : Nat → ByteArray} {sk : Nat → Bool} {v : Value} {e : Nat → Nat} (h : Idx w B I n f sk v e) (hb : Below w.heap.size w w1) : Idx w1 B I n f sk v e := by
  refine ⟨h.base, Nat.lt_of_lt_of_le h.lt hb.size, (World.cell?_of_block (a := ⟨I, 1, none⟩) (hb.block I h.lt)).trans h.field, (World.frozen?_of_block (a := ⟨I, 1, none⟩) (hb.block I h.lt)).trans h.free, ?_, h.apart, fun j hj => ?_, h.inj⟩
  · refine ⟨h.own.1, ?_⟩
    rcases h.own.2 with hn | ⟨g, cap, cur, rfl, hbg, hgg, rest⟩
    · exact .inl hn
    · exact .inr ⟨g, cap, cur, rfl, hbg, by rw [hb.block g (Array.getElem?_eq_some_iff.1 hgg).1]; exact hgg, rest⟩
  · obtain ⟨h1, h2, h3, h4, h5⟩ := h.ents j hj
    exact ⟨h1, Nat.lt_of_lt_of_le h2 hb.size, h3, h4, h5.block (hb.block _ h2)⟩
end Go.Proofs.YteipeagdflcjjaaDoor
