/- What an argument that reads as data is: its value, and the cells that it leads to. -/
import Derived.Test.YteipeagdflcjjaaDoorHead
import Derived.ProofKit
import Derived.OpenShut
import Derived.ShutString
import Derived.Deep.Slices
import Derived.Lib.SmallJoins
import Derived.ChangeOld
import Derived.Test.YteipeagdflcjjaaDoorStrs
import Derived.Test.YteipeagdflcjjaaDoorQAtG
import Derived.Deep.Fields
import Derived.ChangeSame
namespace Go.Proofs.YteipeagdflcjjaaDoor
open Go.RowKit Go.Deep Go.Joins Go.ChangeShapes Go.WideShapes Go.ChangeAt
set_option linter.unusedSimpArgs false
set_option linter.unusedVariables false

theorem cell_at {w : World} {a : Addr} {v : Value} (h : w.cell? a = some v) : a.block < w.heap.size ∧ a.spot = none := by
  unfold World.cell? at h
  cases hh : w.heap[a.block]? with
  | none => rw [hh] at h; cases h
  | some o =>
    rw [hh] at h
    refine ⟨(Array.getElem?_eq_some_iff.1 hh).1, ?_⟩
    cases o <;> simp at h
    exact h.1

section
variable {H : Type} {enc : TypeId × Value → H} {P : Program} {w : World} {base : Nat} {spare : Nat → Bool} {held : Bool}

/-- A slice of elements of one cell, as it is read. -/
theorem read_slice1 {t e : TypeId} {fuel : Nat} {v : Value} {x : DataW H × List MemPlace} (ht : P.underlying t = some (.slice e)) (hc : P.cellsOf e = 1) (h : DataW.trod enc P w base spare held fuel t [v] = some x) :
    ∃ (A : Option Addr) (n c : Nat) (V : Nat → Value), v = .slice A n c ∧ n ≤ c ∧ n ≤ maxLen ∧ Rd w A n V ∧ ∀ i, i < n → ∃ m y, DataW.trod enc P w base spare held m e [V i] = some y := by
  rcases open_slice1 ht hc h with ⟨hcs, _⟩ | ⟨a, len, cap, m, k, V, D, Pl, hcs, _, hl, hm, hmm, _, hx⟩
  · exact ⟨none, 0, 0, fun _ => undef, List.head_eq_of_cons_eq hcs, Nat.le_refl _, Nat.zero_le _, fun i hi => absurd hi (Nat.not_lt_zero _), fun i hi => absurd hi (Nat.not_lt_zero _)⟩
  · have hlm : len ≤ m := by rw [hmm]; split <;> omega
    refine ⟨some a, len, cap, V, List.head_eq_of_cons_eq hcs, hl, Nat.le_trans hl hm, fun i hi => ?_, fun i hi => ⟨k, _, (hx i (by omega)).2⟩⟩
    obtain ⟨h1, _⟩ := cell_at (hx i (by omega)).1
    obtain ⟨_, h2⟩ := cell_at (hx 0 (by omega)).1
    obtain ⟨b, off, sp⟩ := a
    have hsp : sp = none := by simpa [Addr.add] using h2
    subst hsp
    have e1 : (⟨b, off, none⟩ : Addr).add i = ⟨b, off + i, none⟩ := by simp [Addr.add]
    have hx1 := (hx i (by omega)).1
    rw [e1] at hx1 h1
    exact ⟨b, off, rfl, h1, hx1⟩

theorem Rd.congr {A : Option Addr} {n : Nat} {f g : Nat → Value} (h : Rd w A n f) (e : ∀ i, i < n → f i = g i) : Rd w A n g := by
  intro i hi
  rw [← e i hi]; exact h i hi

theorem read_bools {t e : TypeId} {fuel : Nat} {v : Value} {x : DataW H × List MemPlace} (ht : P.underlying t = some (.slice e)) (he : P.underlying e = some .bool) (hc : P.cellsOf e = 1) (h : DataW.trod enc P w base spare held fuel t [v] = some x) :
    ∃ (A : Option Addr) (n c : Nat) (f : Nat → Bool), v = .slice A n c ∧ n ≤ maxLen ∧ Rd w A n (fun i => .bool (f i)) := by
  obtain ⟨A, n, c, V, rfl, _, hm, hr, hx⟩ := read_slice1 ht hc h
  refine ⟨A, n, c, fun i => (match V i with | .bool b => b | _ => false), rfl, hm, hr.congr fun i hi => ?_⟩
  obtain ⟨m, y, hy⟩ := hx i hi
  obtain ⟨b, hb, _⟩ := DataW.trod_bool he hy
  simp only [List.head_eq_of_cons_eq hb]

theorem wf_u8 {z : Int} (h : (Lit.int .u8 z).wf = true) : 0 ≤ z ∧ z ≤ 255 := by
  simp only [Lit.wf, Bool.and_eq_true, decide_eq_true_eq] at h
  exact h

theorem nat_u8 {z : Int} (h : (Lit.int .u8 z).wf = true) : ∃ y : Nat, z = (y : Int) ∧ y < 256 := by
  have := wf_u8 h
  exact ⟨z.toNat, by omega, by omega⟩

theorem nat_u64 {z : Int} (h : (Lit.int .u64 z).wf = true) : ∃ y : Nat, z = (y : Int) ∧ y < 18446744073709551616 := by
  simp only [Lit.wf, Bool.and_eq_true, decide_eq_true_eq] at h
  have h1 : 0 ≤ z := h.1
  have h2 : z ≤ 18446744073709551615 := h.2
  exact ⟨z.toNat, by omega, by omega⟩
theorem wf_i64 {z : Int} (h : (Lit.int .i64 z).wf = true) : -9223372036854775808 ≤ z ∧ z ≤ 9223372036854775807 := by
  simp only [Lit.wf, Bool.and_eq_true, decide_eq_true_eq] at h
  exact ⟨h.1, h.2⟩

theorem read_u8s {t e : TypeId} {fuel : Nat} {v : Value} {x : DataW H × List MemPlace} (ht : P.underlying t = some (.slice e)) (he : P.underlying e = some (.int .u8)) (hc : P.cellsOf e = 1) (h : DataW.trod enc P w base spare held fuel t [v] = some x) :
    ∃ (A : Option Addr) (n c : Nat) (f : Nat → Nat), v = .slice A n c ∧ n ≤ maxLen ∧ Rd w A n (fun i => .int .u8 (f i : Nat)) ∧ ∀ i, f i < 256 := by
  obtain ⟨A, n, c, V, rfl, _, hm, hr, hx⟩ := read_slice1 ht hc h
  refine ⟨A, n, c, fun i => (match V i with | .int .u8 z => z.toNat % 256 | _ => 0), rfl, hm, hr.congr fun i hi => ?_, fun i => by dsimp only; split <;> omega⟩
  obtain ⟨m, y, hy⟩ := hx i hi
  obtain ⟨z, hz, _, hw⟩ := DataW.trod_int he hy
  have := wf_u8 hw
  simp only [List.head_eq_of_cons_eq hz]
  rw [show ((z.toNat % 256 : Nat) : Int) = z by omega]

theorem read_strs {t e : TypeId} {fuel : Nat} {v : Value} {x : DataW H × List MemPlace} (ht : P.underlying t = some (.slice e)) (he : P.underlying e = some .string) (hc : P.cellsOf e = 1) (h : DataW.trod enc P w base spare held fuel t [v] = some x) :
    ∃ (A : Option Addr) (n c : Nat) (f : Nat → ByteArray), v = .slice A n c ∧ n ≤ maxLen ∧ Rd w A n (fun i => .string (f i)) ∧ ∀ i, (f i).size ≤ maxLen := by
  obtain ⟨A, n, c, V, rfl, _, hm, hr, hx⟩ := read_slice1 ht hc h
  refine ⟨A, n, c, fun i => (match V i with | .string s => if s.size ≤ maxLen then s else ⟨#[]⟩ | _ => ⟨#[]⟩), rfl, hm, hr.congr fun i hi => ?_, fun i => by dsimp only; split <;> first | (split; assumption; exact Nat.zero_le _) | exact Nat.zero_le _⟩
  obtain ⟨m, y, hy⟩ := hx i hi
  obtain ⟨s, hs, _, hl⟩ := DataW.trod_string he hy
  simp only [List.head_eq_of_cons_eq hs, if_pos hl]
end
end Go.Proofs.YteipeagdflcjjaaDoor
/- Lists of strings as arguments. -/
namespace Go.Proofs.YteipeagdflcjjaaDoor
open Go.RowKit Go.Deep Go.Joins Go.ChangeShapes Go.WideShapes Go.ChangeAt
set_option linter.unusedSimpArgs false
set_option linter.unusedVariables false
set_option maxRecDepth 100000

theorem stringsKind : Tryd.prog.underlying 23 = some (.slice 9) := by kernel_rfl
theorem cellsString : Tryd.prog.cellsOf 9 = 1 := by kernel_rfl

theorem arg_strs {H : Type} {enc : TypeId × Value → H} {w : World} {base : Nat} {spare : Nat → Bool} {held : Bool} {r : Reach} {b0 : Nat} {v : Value} {d : DataW H} {p : List MemPlace}
    (hv : Value.okWide Tryd.prog w r b0 23 v) (h : DataW.Trod enc Tryd.prog w base spare held 23 v d p) :
    ∃ (A : Option Addr) (n c : Nat) (f : Nat → ByteArray), v = .slice A n c ∧ n ≤ maxLen ∧ n ≤ c ∧ Strs w A n f := by
  obtain ⟨a, len, cap, rfl⟩ := okWide_slice stringsKind hv
  obtain ⟨fuel, h⟩ := h
  obtain ⟨A, n, c, V, hv2, hc, hm, hr, hx⟩ := read_slice1 stringsKind cellsString h
  refine ⟨A, n, c, fun i => (match V i with | .string s => s | _ => ⟨#[]⟩), hv2, hm, hc, hr.congr fun i hi => ?_⟩
  obtain ⟨m, y, hy⟩ := hx i hi
  obtain ⟨s, hs, _, hl⟩ := DataW.trod_string strKind hy
  simp only [List.head_eq_of_cons_eq hs]
end Go.Proofs.YteipeagdflcjjaaDoor
/- A pattern as an argument. -/
namespace Go.Proofs.YteipeagdflcjjaaDoor
open Go.RowKit Go.Deep Go.Joins Go.ChangeShapes Go.WideShapes Go.ChangeAt
set_option linter.unusedSimpArgs false
set_option linter.unusedVariables false
set_option maxRecDepth 100000

theorem boolKindP : Tryd.prog.underlying 4 = some .bool := by kernel_rfl
theorem cellsPat : Tryd.prog.cellsOf 36 = 4 := by kernel_rfl

theorem arg_pat {H : Type} {enc : TypeId × Value → H} {w : World} {base : Nat} {spare : Nat → Bool} {held : Bool} {r : Reach} {b0 : Nat} {v : Value} {d : DataW H} {p : List MemPlace}
    (hv : Value.okWide Tryd.prog w r b0 36 v) (h : DataW.Trod enc Tryd.prog w base spare held 36 v d p) :
    ∃ (A : Option Addr) (n c : Nat) (f : Nat → ByteArray) (b1 b2 b3 : Bool), v = .agg #[.slice A n c, .bool b1, .bool b2, .bool b3] ∧ n ≤ maxLen ∧ Strs w A n f := by
  obtain ⟨v0, v1, v2, v3, y0, y1, y2, y3, n, rfl, _, _, h0, h1, h2, h3⟩ := open_agg4 (P := Tryd.prog) Tryd.underlying36 (by kernel_rfl) cellsPat hv h
  obtain ⟨A, l, c, V, rfl, hc, hm, hr, hx⟩ := read_slice1 stringsKind cellsString h0
  obtain ⟨b1, hb1, _⟩ := DataW.trod_bool boolKindP h1
  obtain ⟨b2, hb2, _⟩ := DataW.trod_bool boolKindP h2
  obtain ⟨b3, hb3, _⟩ := DataW.trod_bool boolKindP h3
  obtain rfl := List.head_eq_of_cons_eq hb1
  obtain rfl := List.head_eq_of_cons_eq hb2
  obtain rfl := List.head_eq_of_cons_eq hb3
  refine ⟨A, l, c, fun i => (match V i with | .string s => s | _ => ⟨#[]⟩), b1, b2, b3, rfl, hm, hr.congr fun i hi => ?_⟩
  obtain ⟨m, y, hy⟩ := hx i hi
  obtain ⟨s, hs, _, hl⟩ := DataW.trod_string strKind hy
  simp only [List.head_eq_of_cons_eq hs]
end Go.Proofs.YteipeagdflcjjaaDoor
/- A pattern as an argument, with its slice's capacity. -/
namespace Go.Proofs.YteipeagdflcjjaaDoor
open Go.RowKit Go.Deep Go.Joins Go.ChangeShapes Go.WideShapes Go.ChangeAt
set_option linter.unusedSimpArgs false
set_option linter.unusedVariables false
set_option maxRecDepth 100000

theorem arg_patc {H : Type} {enc : TypeId × Value → H} {w : World} {base : Nat} {spare : Nat → Bool} {held : Bool} {r : Reach} {b0 : Nat} {v : Value} {d : DataW H} {p : List MemPlace}
    (hv : Value.okWide Tryd.prog w r b0 36 v) (h : DataW.Trod enc Tryd.prog w base spare held 36 v d p) :
    ∃ (A : Option Addr) (n c : Nat) (f : Nat → ByteArray) (b1 b2 b3 : Bool), v = .agg #[.slice A n c, .bool b1, .bool b2, .bool b3] ∧ n ≤ maxLen ∧ n ≤ c ∧ Strs w A n f := by
  obtain ⟨v0, v1, v2, v3, y0, y1, y2, y3, n, rfl, _, _, h0, h1, h2, h3⟩ := open_agg4 (P := Tryd.prog) Tryd.underlying36 (by kernel_rfl) cellsPat hv h
  obtain ⟨A, l, c, V, rfl, hc, hm, hr, hx⟩ := read_slice1 stringsKind cellsString h0
  obtain ⟨b1, hb1, _⟩ := DataW.trod_bool boolKindP h1
  obtain ⟨b2, hb2, _⟩ := DataW.trod_bool boolKindP h2
  obtain ⟨b3, hb3, _⟩ := DataW.trod_bool boolKindP h3
  obtain rfl := List.head_eq_of_cons_eq hb1
  obtain rfl := List.head_eq_of_cons_eq hb2
  obtain rfl := List.head_eq_of_cons_eq hb3
  refine ⟨A, l, c, fun i => (match V i with | .string s => s | _ => ⟨#[]⟩), b1, b2, b3, rfl, hm, hc, hr.congr fun i hi => ?_⟩
  obtain ⟨m, y, hy⟩ := hx i hi
  obtain ⟨s, hs, _, hl⟩ := DataW.trod_string strKind hy
  simp only [List.head_eq_of_cons_eq hs]
end Go.Proofs.YteipeagdflcjjaaDoor
/- Attributes as arguments. -/
namespace Go.Proofs.YteipeagdflcjjaaDoor
open Go.RowKit Go.Deep Go.Joins Go.ChangeShapes Go.WideShapes Go.ChangeAt
set_option linter.unusedSimpArgs false
set_option linter.unusedVariables false
set_option maxRecDepth 100000

section
variable {H : Type} {enc : TypeId × Value → H} {P : Program} {w : World} {base : Nat} {spare : Nat → Bool} {held : Bool}
theorem open_slice_fields {t e : TypeId} {fs : Array Field} {fuel : Nat} {cs : List Value} {x : DataW H × List MemPlace} (ht : P.underlying t = some (.slice e)) (he : P.underlying e = some (.struct fs))
    (hone : oneCellFields P fs = true) (hC : P.cellsOf e = fs.size) (h : DataW.trod enc P w base spare held fuel t cs = some x) :
    (cs = [.slice none 0 0] ∧ x = (.nil, [])) ∨
    ∃ (a : Addr) (len cap m : Nat) (D : Nat → DataW H) (Pl : Nat → List MemPlace), cs = [.slice (some a) len cap] ∧ base ≤ a.block ∧ len ≤ cap ∧ cap ≤ maxLen ∧ m = (if spare a.block then cap else len) ∧
      x = (.slice ((List.range len).map D) ((List.range (m - len)).map fun j => D (len + j)), MemPlace.row a (m * fs.size) ++ (List.range m).flatMap Pl) ∧
      ∀ i, i < m → ∃ (ys : List (DataW H × List MemPlace)) (n : Nat), D i = .agg (ys.map (·.1)) ∧ Pl i = ys.flatMap (·.2) ∧ ys.length = fs.size ∧
        ∀ (j : Nat) (f : Field), fs[j]? = some f → ∃ (v : Value) (y : DataW H × List MemPlace), w.cell? (a.add (i * fs.size + j)) = some v ∧ ys[j]? = some y ∧ DataW.trod enc P w base spare held n f.type [v] = some y := by
  rcases open_slice ht h with h0 | ⟨a, len, cap, m, n, D, Pl, hcs, hb, hl, hm, hmm, hx, hi⟩
  · exact .inl h0
  · refine .inr ⟨a, len, cap, m, D, Pl, hcs, hb, hl, hm, hmm, by rw [hC] at hx; exact hx, fun i him => ?_⟩
    obtain ⟨cs', hc, ht'⟩ := hi i him
    rw [hC] at hc
    obtain ⟨ys, n', hn', hy, hlen, hyl, hf⟩ := DataW.trod_struct he ht'
    obtain ⟨_, hcl, hat⟩ := World.cells?_some hc
    simp only [Prod.mk.injEq] at hy
    refine ⟨ys, n', hy.1, hy.2, hyl, fun j f hj => ?_⟩
    obtain ⟨ho, hk⟩ := hone_of hone j f hj
    have hjl : j < fs.size := (Array.getElem?_eq_some_iff.1 hj).1
    have hcell := hat j hjl
    have hv : cs'[j]? = some (cs'[j]'(by omega)) := List.getElem?_eq_getElem (by omega)
    have h1 := hf j f hj
    rw [ho, hk] at h1
    have hone' : (cs'.drop j).take 1 = [cs'[j]'(by omega)] := by
      rw [List.drop_eq_getElem_cons (by omega)]
      rfl
    rw [hone'] at h1
    have hys : ys[j]? = some (ys[j]'(by omega)) := List.getElem?_eq_getElem (by omega)
    refine ⟨_, _, ?_, hys, h1.trans hys⟩
    rw [← Go.Deep.add_add, hcell, hv]
end

theorem gaKind : ∃ f0 f1 f2 : Field, Tryd.prog.underlying 42 = some (.struct #[f0, f1, f2]) ∧ f0.type = 9 ∧ f1.type = 5 ∧ f2.type = 9 ∧ oneCellFields Tryd.prog #[f0, f1, f2] = true :=
  ⟨_, _, _, Tryd.underlying42, rfl, rfl, rfl, by kernel_rfl⟩
theorem gasKind : Tryd.prog.underlying 37 = some (.slice 42) := by kernel_rfl
theorem cellsGa : Tryd.prog.cellsOf 42 = 3 := by kernel_rfl
def strC (v : Option Value) : ByteArray := match v with
  | some (.string s) => s
  | _ => ⟨#[]⟩
def intOfC (v : Option Value) : Nat := match v with
  | some (.int _ z) => z.toNat
  | _ => 0
theorem arg_gas {H : Type} {enc : TypeId × Value → H} {w : World} {base : Nat} {spare : Nat → Bool} {held : Bool} {r : Reach} {b0 : Nat} {v : Value} {d : DataW H} {p : List MemPlace}
    (hv : Value.okWide Tryd.prog w r b0 37 v) (h : DataW.Trod enc Tryd.prog w base spare held 37 v d p) :
    ∃ (A : Option Addr) (n c : Nat) (f : Nat → AttrT), v = .slice A n c ∧ n ≤ c ∧ c ≤ maxLen ∧ GAs w A n f := by
  obtain ⟨a, len, cap, rfl⟩ := okWide_slice gasKind hv
  obtain ⟨fuel, h⟩ := h
  obtain ⟨F0, F1, F2, hk, t0, t1, t2, hone⟩ := gaKind
  have h' : DataW.trod enc Tryd.prog w base spare held fuel 37 [.slice a len cap] = some (d, p) := by simpa [Value.cells] using h
  rcases open_slice_fields gasKind hk hone cellsGa h' with ⟨hcs, _⟩ | ⟨a', len', cap', m, D, Pl, hcs, _, hl, hm, hmm, _, hx⟩
  · have := List.head_eq_of_cons_eq hcs
    cases this
    exact ⟨none, 0, 0, fun _ => (⟨#[]⟩, 0, ⟨#[]⟩), rfl, Nat.le_refl _, Nat.zero_le _, fun k hk => absurd hk (Nat.not_lt_zero _)⟩
  · have := List.head_eq_of_cons_eq hcs
    cases this
    have hlm : len ≤ m := by rw [hmm]; split <;> omega
    refine ⟨some a', len, cap, fun i => (strC (w.cell? (a'.add (i * 3))), intOfC (w.cell? (a'.add (i * 3 + 1))), strC (w.cell? (a'.add (i * 3 + 2)))), rfl, hl, hm, fun k hk => ?_⟩
    obtain ⟨ys, n, _, _, _, hf⟩ := hx k (by omega)
    obtain ⟨v0, y0, hc0, _, ht0⟩ := hf 0 F0 rfl
    obtain ⟨v1, y1, hc1, _, ht1⟩ := hf 1 F1 rfl
    obtain ⟨v2, y2, hc2, _, ht2⟩ := hf 2 F2 rfl
    rw [t0] at ht0; rw [t1] at ht1; rw [t2] at ht2
    obtain ⟨s0, hs0, _, hl0⟩ := DataW.trod_string strKind ht0
    obtain ⟨z, hz, _, hw⟩ := DataW.trod_int byteKind ht1
    obtain ⟨s2, hs2, _, hl2⟩ := DataW.trod_string strKind ht2
    obtain rfl := List.head_eq_of_cons_eq hs0
    obtain rfl := List.head_eq_of_cons_eq hz
    obtain rfl := List.head_eq_of_cons_eq hs2
    have hz := wf_u8 hw
    have hc0 : w.cell? (a'.add (k * 3)) = some (.string s0) := hc0
    have hc1 : w.cell? (a'.add (k * 3 + 1)) = some (.int .u8 z) := hc1
    have hc2 : w.cell? (a'.add (k * 3 + 2)) = some (.string s2) := hc2
    obtain ⟨hblt, _⟩ := cell_at hc0
    obtain ⟨ys', n', _, _, _, hf'⟩ := hx 0 (by omega)
    obtain ⟨v0', y0', hc0', _, _⟩ := hf' 0 F0 rfl
    obtain ⟨_, hsp⟩ := cell_at hc0'
    obtain ⟨b, off, sp⟩ := a'
    have hsp' : sp = none := by simpa [Addr.add] using hsp
    subst hsp'
    clear hf hf' hx
    dsimp only
    rw [hc0, hc1, hc2]
    have e0 : (⟨b, off, none⟩ : Addr).add (k * 3) = ⟨b, off + k * 3, none⟩ := by simp [Addr.add]
    have e1 : (⟨b, off, none⟩ : Addr).add (k * 3 + 1) = ⟨b, off + k * 3 + 1, none⟩ := by simp [Addr.add]; omega
    have e2 : (⟨b, off, none⟩ : Addr).add (k * 3 + 2) = ⟨b, off + k * 3 + 2, none⟩ := by simp [Addr.add]; omega
    rw [e0] at hc0 hblt; rw [e1] at hc1; rw [e2] at hc2
    have hzz : ((z.toNat : Nat) : Int) = z := by omega
    refine ⟨b, off, rfl, hblt, hc0, ?_, hc2, ?_, hl0, hl2⟩
    · rw [hc1]; unfold intOfC; dsimp only; rw [hzz]
    · unfold intOfC; dsimp only; omega
theorem arg_ga {H : Type} {enc : TypeId × Value → H} {w : World} {base : Nat} {spare : Nat → Bool} {held : Bool} {r : Reach} {b0 : Nat} {v : Value} {d : DataW H} {p : List MemPlace}
    (hv : Value.okWide Tryd.prog w r b0 42 v) (h : DataW.Trod enc Tryd.prog w base spare held 42 v d p) :
    ∃ (s : ByteArray) (x : Nat) (u : ByteArray), v = .agg #[.string s, .int .u8 (x : Nat), .string u] ∧ x < 256 ∧ s.size ≤ maxLen ∧ u.size ≤ maxLen := by
  obtain ⟨v0, v1, v2, y0, y1, y2, n, rfl, _, _, h0, h1, h2⟩ := open_agg3 (P := Tryd.prog) Tryd.underlying42 (by kernel_rfl) cellsGa hv h
  obtain ⟨s0, hs0, _, hl0⟩ := DataW.trod_string strKind h0
  obtain ⟨z, hz, _, hw⟩ := DataW.trod_int byteKind h1
  obtain ⟨s2, hs2, _, hl2⟩ := DataW.trod_string strKind h2
  obtain rfl := List.head_eq_of_cons_eq hs0
  obtain rfl := List.head_eq_of_cons_eq hz
  obtain rfl := List.head_eq_of_cons_eq hs2
  have := wf_u8 hw
  exact ⟨s0, z.toNat, s2, by rw [show ((z.toNat : Nat) : Int) = z by omega], by omega, hl0, hl2⟩
end Go.Proofs.YteipeagdflcjjaaDoor
