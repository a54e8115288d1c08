/- Attributes as arguments. -/
import Derived.Test.YteipeagdflcjjaaDoorArgStrs
import Derived.Test.YteipeagdflcjjaaDoorAtG
import Derived.Deep.Slices
import Derived.Deep.Fields
import Derived.ChangeSame
namespace Go.Proofs.YteipeagdflcjjaaDoor
open Go.RowKit Go.Deep Go.Joins Go.ChangeShapes Go.WideShapes Go.ChangeAt
set_option linter.unusedSimpArgs false
set_option linter.unusedVariables false
set_option maxRecDepth 100000

section
variable {H : Type} {enc : TypeId × Value → H} {P : Program} {w : World} {base : Nat} {spare : Nat → Bool} {held : Bool}
theorem open_slice_fields {t e : TypeId} {fs : Array Field} {fuel : Nat} {cs : List Value} {x : DataW H × List MemPlace} (ht : P.underlying t = some (.slice e)) (he : P.underlying e = some (.struct fs))
    (hone : oneCellFields P fs = true) (hC : P.cellsOf e = fs.size) (h : DataW.trod enc P w base spare held fuel t cs = some x) :
    (cs = [.slice none 0 0] ∧ x = (.nil, [])) ∨
    ∃ (a : Addr) (len cap m : Nat) (D : Nat → DataW H) (Pl : Nat → List MemPlace), cs = [.slice (some a) len cap] ∧ base ≤ a.block ∧ len ≤ cap ∧ cap ≤ maxLen ∧ m = (if spare a.block then cap else len) ∧
      x = (.slice ((List.range len).map D) ((List.range (m - len)).map fun j => D (len + j)), MemPlace.row a (m * fs.size) ++ (List.range m).flatMap Pl) ∧
      ∀ i, i < m → ∃ (ys : List (DataW H × List MemPlace)) (n : Nat), D i = .agg (ys.map (·.1)) ∧ Pl i = ys.flatMap (·.2) ∧ ys.length = fs.size ∧
        ∀ (j : Nat) (f : Field), fs[j]? = some f → ∃ (v : Value) (y : DataW H × List MemPlace), w.cell? (a.add (i * fs.size + j)) = some v ∧ ys[j]? = some y ∧ DataW.trod enc P w base spare held n f.type [v] = some y := by
  rcases open_slice ht h with h0 | ⟨a, len, cap, m, n, D, Pl, hcs, hb, hl, hm, hmm, hx, hi⟩
  · exact .inl h0
  · refine .inr ⟨a, len, cap, m, D, Pl, hcs, hb, hl, hm, hmm, by rw [hC] at hx; exact hx, fun i him => ?_⟩
    obtain ⟨cs', hc, ht'⟩ := hi i him
    rw [hC] at hc
    obtain ⟨ys, n', hn', hy, hlen, hyl, hf⟩ := DataW.trod_struct he ht'
    obtain ⟨_, hcl, hat⟩ := World.cells?_some hc
    simp only [Prod.mk.injEq] at hy
    refine ⟨ys, n', hy.1, hy.2, hyl, fun j f hj => ?_⟩
    obtain ⟨ho, hk⟩ := hone_of hone j f hj
    have hjl : j < fs.size := (Array.getElem?_eq_some_iff.1 hj).1
    have hcell := hat j hjl
    have hv : cs'[j]? = some (cs'[j]'(by omega)) := List.getElem?_eq_getElem (by omega)
    have h1 := hf j f hj
    rw [ho, hk] at h1
    have hone' : (cs'.drop j).take 1 = [cs'[j]'(by omega)] := by
      rw [List.drop_eq_getElem_cons (by omega)]
      rfl
    rw [hone'] at h1
    have hys : ys[j]? = some (ys[j]'(by omega)) := List.getElem?_eq_getElem (by omega)
    refine ⟨_, _, ?_, hys, h1.trans hys⟩
    rw [← Go.Deep.add_add, hcell, hv]
end

theorem gaKind : ∃ f0 f1 f2 : Field, Tryd.prog.underlying 42 = some (.struct #[f0, f1, f2]) ∧ f0.type = 9 ∧ f1.type = 5 ∧ f2.type = 9 ∧ oneCellFields Tryd.prog #[f0, f1, f2] = true :=
  ⟨_, _, _, Tryd.underlying42, rfl, rfl, rfl, by kernel_rfl⟩
theorem gasKind : Tryd.prog.underlying 37 = some (.slice 42) := by kernel_rfl
theorem cellsGa : Tryd.prog.cellsOf 42 = 3 := by kernel_rfl
def strC (v : Option Value) : ByteArray := match v with
  | some (.string s) => s
  | _ => ⟨#[]⟩
def intOfC (v : Option Value) : Nat := match v with
  | some (.int _ z) => z.toNat
  | _ => 0
theorem arg_gas {H : Type} {enc : TypeId × Value → H} {w : World} {base : Nat} {spare : Nat → Bool} {held : Bool} {r : Reach} {b0 : Nat} {v : Value} {d : DataW H} {p : List MemPlace}
    (hv : Value.okWide Tryd.prog w r b0 37 v) (h : DataW.Trod enc Tryd.prog w base spare held 37 v d p) :
    ∃ (A : Option Addr) (n c : Nat) (f : Nat → AttrT), v = .slice A n c ∧ n ≤ c ∧ c ≤ maxLen ∧ GAs w A n f := by
  obtain ⟨a, len, cap, rfl⟩ := okWide_slice gasKind hv
  obtain ⟨fuel, h⟩ := h
  obtain ⟨F0, F1, F2, hk, t0, t1, t2, hone⟩ := gaKind
  have h' : DataW.trod enc Tryd.prog w base spare held fuel 37 [.slice a len cap] = some (d, p) := by simpa [Value.cells] using h
  rcases open_slice_fields gasKind hk hone cellsGa h' with ⟨hcs, _⟩ | ⟨a', len', cap', m, D, Pl, hcs, _, hl, hm, hmm, _, hx⟩
  · have := List.head_eq_of_cons_eq hcs
    cases this
    exact ⟨none, 0, 0, fun _ => (⟨#[]⟩, 0, ⟨#[]⟩), rfl, Nat.le_refl _, Nat.zero_le _, fun k hk => absurd hk (Nat.not_lt_zero _)⟩
  · have := List.head_eq_of_cons_eq hcs
    cases this
    have hlm : len ≤ m := by rw [hmm]; split <;> omega
    refine ⟨some a', len, cap, fun i => (strC (w.cell? (a'.add (i * 3))), intOfC (w.cell? (a'.add (i * 3 + 1))), strC (w.cell? (a'.add (i * 3 + 2)))), rfl, hl, hm, fun k hk => ?_⟩
    obtain ⟨ys, n, _, _, _, hf⟩ := hx k (by omega)
    obtain ⟨v0, y0, hc0, _, ht0⟩ := hf 0 F0 rfl
    obtain ⟨v1, y1, hc1, _, ht1⟩ := hf 1 F1 rfl
    obtain ⟨v2, y2, hc2, _, ht2⟩ := hf 2 F2 rfl
    rw [t0] at ht0; rw [t1] at ht1; rw [t2] at ht2
    obtain ⟨s0, hs0, _, hl0⟩ := DataW.trod_string strKind ht0
    obtain ⟨z, hz, _, hw⟩ := DataW.trod_int byteKind ht1
    obtain ⟨s2, hs2, _, hl2⟩ := DataW.trod_string strKind ht2
    obtain rfl := List.head_eq_of_cons_eq hs0
    obtain rfl := List.head_eq_of_cons_eq hz
    obtain rfl := List.head_eq_of_cons_eq hs2
    have hz := wf_u8 hw
    have hc0 : w.cell? (a'.add (k * 3)) = some (.string s0) := hc0
    have hc1 : w.cell? (a'.add (k * 3 + 1)) = some (.int .u8 z) := hc1
    have hc2 : w.cell? (a'.add (k * 3 + 2)) = some (.string s2) := hc2
    obtain ⟨hblt, _⟩ := cell_at hc0
    obtain ⟨ys', n', _, _, _, hf'⟩ := hx 0 (by omega)
    obtain ⟨v0', y0', hc0', _, _⟩ := hf' 0 F0 rfl
    obtain ⟨_, hsp⟩ := cell_at hc0'
    obtain ⟨b, off, sp⟩ := a'
    have hsp' : sp = none := by simpa [Addr.add] using hsp
    subst hsp'
    clear hf hf' hx
    dsimp only
    rw [hc0, hc1, hc2]
    have e0 : (⟨b, off, none⟩ : Addr).add (k * 3) = ⟨b, off + k * 3, none⟩ := by simp [Addr.add]
    have e1 : (⟨b, off, none⟩ : Addr).add (k * 3 + 1) = ⟨b, off + k * 3 + 1, none⟩ := by simp [Addr.add]; omega
    have e2 : (⟨b, off, none⟩ : Addr).add (k * 3 + 2) = ⟨b, off + k * 3 + 2, none⟩ := by simp [Addr.add]; omega
    rw [e0] at hc0 hblt; rw [e1] at hc1; rw [e2] at hc2
    have hzz : ((z.toNat : Nat) : Int) = z := by omega
    refine ⟨b, off, rfl, hblt, hc0, ?_, hc2, ?_, hl0, hl2⟩
    · rw [hc1]; unfold intOfC; dsimp only; rw [hzz]
    · unfold intOfC; dsimp only; omega
theorem arg_ga {H : Type} {enc : TypeId × Value → H} {w : World} {base : Nat} {spare : Nat → Bool} {held : Bool} {r : Reach} {b0 : Nat} {v : Value} {d : DataW H} {p : List MemPlace}
    (hv : Value.okWide Tryd.prog w r b0 42 v) (h : DataW.Trod enc Tryd.prog w base spare held 42 v d p) :
    ∃ (s : ByteArray) (x : Nat) (u : ByteArray), v = .agg #[.string s, .int .u8 (x : Nat), .string u] ∧ x < 256 ∧ s.size ≤ maxLen ∧ u.size ≤ maxLen := by
  obtain ⟨v0, v1, v2, y0, y1, y2, n, rfl, _, _, h0, h1, h2⟩ := open_agg3 (P := Tryd.prog) Tryd.underlying42 (by kernel_rfl) cellsGa hv h
  obtain ⟨s0, hs0, _, hl0⟩ := DataW.trod_string strKind h0
  obtain ⟨z, hz, _, hw⟩ := DataW.trod_int byteKind h1
  obtain ⟨s2, hs2, _, hl2⟩ := DataW.trod_string strKind h2
  obtain rfl := List.head_eq_of_cons_eq hs0
  obtain rfl := List.head_eq_of_cons_eq hz
  obtain rfl := List.head_eq_of_cons_eq hs2
  have := wf_u8 hw
  exact ⟨s0, z.toNat, s2, by rw [show ((z.toNat : Nat) : Int) = z by omega], by omega, hl0, hl2⟩
end Go.Proofs.YteipeagdflcjjaaDoor
