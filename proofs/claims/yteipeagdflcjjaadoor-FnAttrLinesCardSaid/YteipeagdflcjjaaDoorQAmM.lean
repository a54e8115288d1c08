/- Lines of attributes as they are kept. -/
import Derived.Test.YteipeagdflcjjaaDoorQAtL
import Derived.Maps.OwnSet
import Derived.Maps.Views
import Derived.Maps.RangeWalk
import Derived.StringKeys
namespace Go.Proofs.YteipeagdflcjjaaDoor.Am
open Go.RowKit
set_option linter.unusedSimpArgs false
set_option linter.unusedVariables false

/-- What a slice reads, in blocks that do not change (bad: those that may). -/
def RdA (w : World) (bad : Nat → Prop) (A : Option Addr) (n : Nat) (f : Nat → Value) : Prop :=
  ∀ i, i < n → ∃ b off, A = some ⟨b, off, none⟩ ∧ b < w.heap.size ∧ ¬ bad b ∧ w.cell? ⟨b, off + i, none⟩ = some (f i)
theorem RdA.rd {w : World} {bad : Nat → Prop} {A : Option Addr} {n : Nat} {f : Nat → Value} (h : RdA w bad A n f) : Rd w A n f := fun i hi => by
  obtain ⟨b, off, h1, h2, _, h4⟩ := h i hi
  exact ⟨b, off, h1, h2, h4⟩
theorem RdA.kept {w w' : World} {bad : Nat → Prop} {A : Option Addr} {n : Nat} {f : Nat → Value} (h : RdA w bad A n f) (hk : ∀ k, k < w.heap.size → ¬ bad k → w'.heap[k]? = w.heap[k]?) (hs : w.heap.size ≤ w'.heap.size) : RdA w' bad A n f := fun i hi => by
  obtain ⟨b, off, h1, h2, h3, h4⟩ := h i hi
  exact ⟨b, off, h1, Nat.lt_of_lt_of_le h2 hs, h3, (World.cell?_of_block (a := ⟨b, off + i, none⟩) (hk b h2 h3)).trans h4⟩
theorem RdA.moved {w : World} {bad bad' : Nat → Prop} {A : Option Addr} {n : Nat} {f : Nat → Value} (h : RdA w bad A n f) (hg : ∀ k, k < w.heap.size → bad' k → bad k) : RdA w bad' A n f := fun i hi => by
  obtain ⟨b, off, h1, h2, h3, h4⟩ := h i hi
  exact ⟨b, off, h1, h2, fun e => h3 (hg b h2 e), h4⟩

/-- A line as it is kept: its name, its pattern (none: a macro), its attributes. -/
structure MA where
  nm : ByteArray
  pat : Option (Nat × Value × Option Addr × Nat × List ByteArray)
  A : Option Addr
  c : Nat
  n : Nat
  att : Nat → AttrT
def MA.pv (a : MA) : Value := match a.pat with
  | none => .nilIface
  | some p => .iface 152 (.pointer (some ⟨p.1, 0, none⟩))
def MA.cells (a : MA) : List Value := [.string a.nm, a.pv, .slice a.A a.n a.c]
/-- The pattern's own block, and its parts. -/
def PatAt (w : World) (bad : Nat → Prop) (p : Nat × Value × Option Addr × Nat × List ByteArray) : Prop :=
  p.1 < w.heap.size ∧ ¬ bad p.1 ∧ w.heap[p.1]? = some (.cells #[p.2.1, .slice p.2.2.1 p.2.2.2.2.length p.2.2.2.1] 154 (0, 0)) ∧ (p.2.2.2.2.length ≤ p.2.2.2.1 ∧ p.2.2.2.1 ≤ maxLen) ∧ RdA w bad p.2.2.1 p.2.2.2.2.length (fun i => .string (p.2.2.2.2.getD i ⟨#[]⟩))
structure ElemAt (w : World) (bad : Nat → Prop) (a : MA) : Prop where
  pat : ∀ p, a.pat = some p → PatAt w bad p
  atts : RdA w bad a.A a.n (fun i => attrV (a.att i))
  few : a.n ≤ 1000
theorem ElemAt.kept {w w' : World} {bad : Nat → Prop} {a : MA} (h : ElemAt w bad a) (hk : ∀ k, k < w.heap.size → ¬ bad k → w'.heap[k]? = w.heap[k]?) (hs : w.heap.size ≤ w'.heap.size) : ElemAt w' bad a :=
  ⟨fun p hp => by
    obtain ⟨h1, h2, h3, h4, h5⟩ := h.pat p hp
    exact ⟨Nat.lt_of_lt_of_le h1 hs, h2, (hk _ h1 h2).trans h3, h4, h5.kept hk hs⟩, h.atts.kept hk hs, h.few⟩
theorem ElemAt.moved {w : World} {bad bad' : Nat → Prop} {a : MA} (h : ElemAt w bad a) (hg : ∀ k, k < w.heap.size → bad' k → bad k) : ElemAt w bad' a :=
  ⟨fun p hp => by
    obtain ⟨h1, h2, h3, h4, h5⟩ := h.pat p hp
    exact ⟨h1, fun e => h2 (hg _ h1 e), h3, h4, h5.moved hg⟩, h.atts.moved hg, h.few⟩
theorem ElemAt.below {w w' : World} {bad : Nat → Prop} {a : MA} (h : ElemAt w bad a) (hb : Below w.heap.size w w') : ElemAt w' bad a := h.kept (fun k hk _ => hb.block k hk) hb.size

/-- The list of lines. -/
def StackAt (w : World) (B : Nat) (sv : Value) (L : List MA) : Prop :=
  w.ownsRow B 87 3 sv L.length (L.flatMap MA.cells) ∧ ∀ a ∈ L, ElemAt w (fun k => k < B ∨ sv.ownBlock = some k) a
theorem StackAt.kept {w w' : World} {B : Nat} {sv : Value} {L : List MA} (h : StackAt w B sv L) (hk : ∀ k, k < w.heap.size → B ≤ k → w'.heap[k]? = w.heap[k]?) (hs : w.heap.size ≤ w'.heap.size) : StackAt w' B sv L := by
  refine ⟨⟨h.1.1, ?_⟩, fun a ha => (h.2 a ha).kept (fun k h1 h2 => hk k h1 (Nat.le_of_not_lt fun e => h2 (.inl e))) hs⟩
  rcases h.1.2 with hn | ⟨g, cap, cur, rfl, hbg, hgg, rest⟩
  · exact .inl hn
  · exact .inr ⟨g, cap, cur, rfl, hbg, by rw [hk g (Array.getElem?_eq_some_iff.1 hgg).1 hbg]; exact hgg, rest⟩
theorem StackAt.below {w w' : World} {B : Nat} {sv : Value} {L : List MA} (h : StackAt w B sv L) (hb : Below w.heap.size w w') : StackAt w' B sv L := h.kept (fun k hk _ => hb.block k hk) hb.size
/-- One line more. -/
theorem StackAt.more {w H w' : World} {B g cap : Nat} {sv : Value} {L : List MA} {a : MA} (h : StackAt w B sv L) (hel : ElemAt w (fun k => k < B ∨ sv.ownBlock = some k) a) (hw : Below w.heap.size w H) (hg : H.grownBy w' sv.ownBlock) (hat : sv.ownBlock = some g ∨ w.heap.size ≤ g)
    (hown : w'.ownsRow B 87 3 (.slice (some ⟨g, 0, none⟩) (L.length + 1) cap) (L.length + 1) (L.flatMap MA.cells ++ a.cells)) :
    StackAt w' B (.slice (some ⟨g, 0, none⟩) (L.length + 1) cap) (L ++ [a]) := by
  refine ⟨by rw [List.flatMap_append, List.length_append]; simpa using hown, fun x hx => ?_⟩
  have hx2 : ElemAt w (fun k => k < B ∨ sv.ownBlock = some k) x := by
    rcases List.mem_append.mp hx with h1 | h1
    · exact h.2 x h1
    · rw [List.mem_singleton] at h1; subst h1; exact hel
  have h3 : ElemAt w' (fun k => k < B ∨ sv.ownBlock = some k) x := hx2.kept (fun k hk hb => (hg.block k (Nat.lt_of_lt_of_le hk hw.size) (fun e => hb (.inr e.symm))).trans (hw.block k hk)) (Nat.le_trans hw.size hg.size)
  refine ⟨fun p hp => ?_, fun i hi => ?_, h3.few⟩
  · obtain ⟨h1, h2, _⟩ := hx2.pat p hp
    obtain ⟨k1, k2, k3, k4, k5⟩ := h3.pat p hp
    have hne : ∀ k, k < w.heap.size → ¬ (k < B ∨ sv.ownBlock = some k) → ¬ (k < B ∨ (Value.slice (some ⟨g, 0, none⟩) (L.length + 1) cap).ownBlock = some k) := fun k hk hn e => by
      rcases e with e | e
      · exact hn (.inl e)
      · have e : some g = some k := e
        injection e with e
        subst e
        rcases hat with hat | hat
        · exact hn (.inr hat)
        · omega
    refine ⟨k1, hne _ h1 h2, k3, k4, fun i hi => ?_⟩
    obtain ⟨b, off, e1, e2, e3, e4⟩ := k5 i hi
    obtain ⟨_, _, _, _, h5⟩ := hx2.pat p hp
    obtain ⟨b', off', f1, f2, f3, _⟩ := h5 i hi
    rw [e1] at f1
    injection f1 with f1
    injection f1 with f1 f1'
    subst f1
    exact ⟨b, off, e1, e2, hne _ f2 f3, e4⟩
  · obtain ⟨b, off, e1, e2, e3, e4⟩ := h3.atts i hi
    obtain ⟨b', off', f1, f2, f3, _⟩ := hx2.atts i hi
    rw [e1] at f1
    injection f1 with f1
    injection f1 with f1 f1'
    subst f1
    refine ⟨b, off, e1, e2, fun e => ?_, e4⟩
    rcases e with e | e
    · exact f3 (.inl e)
    · have e : some g = some b := e
      injection e with e
      subst e
      rcases hat with hat | hat
      · exact f3 (.inr hat)
      · omega

/-- What the reading of a line is asked to give. -/
def LinePost (S : MA → Prop) (w : World) (e : Ending) (w' : World) : Prop :=
  ∃ a : MA, e = .returned (.tuple #[.agg #[.string a.nm, a.pv, .slice a.A a.n a.c], .nilIface]) ∧ S a ∧ a.nm.size ≠ 0 ∧ (∀ bad : Nat → Prop, (∀ k, bad k → k < w.heap.size) → ElemAt w' bad a) ∧ Below w.heap.size w w'
theorem line_of_ok {nm : ByteArray} {n : Nat} {att : Nat → AttrT} {dv : Value} {w w' : World} {e : Ending} (h : OkLine nm n att dv w e w') (hn : n ≤ 1000) (h0 : nm.size ≠ 0) :
    LinePost (fun a => a.nm = nm ∧ a.n = n ∧ a.att = att ∧ ∃ p, a.pat = some p ∧ p.2.1 = dv ∧ p.2.2.2.2.map nb = splitN (nb nm)) w e w' := by
  obtain ⟨pb, v, rfl, ⟨A, c, PL, h1, h2, h3, h4, h5, h6⟩, hown, hb⟩ := h
  have hv : ∃ A2 c2, v = .slice A2 n c2 ∧ ∀ i, i < n → ∃ b off, A2 = some ⟨b, off, none⟩ ∧ w.heap.size ≤ b ∧ b < w'.heap.size ∧ w'.cell? ⟨b, off + i, none⟩ = some (attrV (att i)) := by
    rcases hown.2 with ⟨rfl, h0⟩ | ⟨g, cap, cur, rfl, hbg, hg, hn, hm, _⟩
    · exact ⟨none, 0, by rw [h0], fun i hi => by omega⟩
    · refine ⟨_, cap, rfl, fun i hi => ⟨g, 0, rfl, hbg, (Array.getElem?_eq_some_iff.1 hg).1, ?_⟩⟩
      have hc := hown.cells (g := g) rfl i (attrV (att i)) (by unfold attsV; rw [List.getElem?_map, List.getElem?_range hi]; rfl)
      have hadd : (⟨g, 0, none⟩ : Addr).add i = ⟨g, 0 + i, none⟩ := by unfold Addr.add; split <;> simp_all
      rwa [hadd] at hc
  obtain ⟨A2, c2, rfl, hat⟩ := hv
  refine ⟨⟨nm, some (pb, dv, A, c, PL), A2, c2, n, att⟩, rfl, ⟨rfl, rfl, rfl, _, rfl, rfl, h2⟩, h0, fun g hg => ⟨fun p hp => ?_, fun i hi => ?_, hn⟩, hb⟩
  · injection hp with hp
    subst hp
    refine ⟨(Array.getElem?_eq_some_iff.1 h1).1, fun e => by have := hg _ e; omega, h1, h3, fun i hi => ?_⟩
    obtain ⟨b, off, e1, e2, e3⟩ := h4 i hi
    exact ⟨b, off, e1, e2, fun e => by have := hg _ e; have := h5 _ _ _ e1; omega, e3⟩
  · obtain ⟨b, off, e1, e2, e3, e4⟩ := hat i hi
    exact ⟨b, off, e1, e3, fun e => by have := hg _ e; omega, e4⟩
end Go.Proofs.YteipeagdflcjjaaDoor.Am
/- gitattributes' matcher: its maps; expandMacro where no macro stands; init, NewMatcher. -/
namespace Go.Proofs.YteipeagdflcjjaaDoor.Am
open Go.RowKit
open Go.Maps (Keyed string_keyed)
set_option linter.unusedSimpArgs false
set_option linter.unusedVariables false

def RV (v : Value) : Option (DataW Value × List MemPlace) := some (.held v, [])
def kl (s : ByteArray) : Lit := .string s.data.toList
theorem kl_inj {s t : ByteArray} (h : kl s = kl t) : s = t := by
  injection h with h
  have h2 : s.data = t.data := Array.toList_inj.mp h
  cases s; cases t; simp at h2; rw [h2]
theorem kl_ne {s t : ByteArray} (h : nb s ≠ nb t) : kl s ≠ kl t := fun e => h (by rw [kl_inj e])
theorem isKey (s : ByteArray) : WideAt.IsKeyLit (kl s) := by unfold kl; simp [WideAt.IsKeyLit]
theorem strKeyed : Keyed Tryd.prog 9 := string_keyed strKind
theorem key_of (s : ByteArray) (hs : s.size ≤ maxLen) : keyOf Tryd.prog 9 (.string s) = some (kl s) := WideMaps.keyOf_string_mk strKind hs

abbrev MapV := ByteArray → Option Value
def upd (M : MapV) (s : ByteArray) (v : Value) : MapV := fun x => if nb x = nb s then some v else M x
/-- What a map's datum says. -/
structure MD (D : DataW Value) (M : MapV) (K : Nat) : Prop where
  size : Maps.size D = K
  has : ∀ s, Maps.has D (kl s) = (M s).isSome
  at_ : ∀ s v, M s = some v → ∀ zd, D.atKey (kl s) zd = .held v
def MapIs (w : World) (b N : Nat) (M : MapV) (K : Nat) : Prop := ∃ D, w.ownsMap Tryd.prog 9 RV b N D ∧ MD D M K
theorem MapIs.kept {w w' : World} {b N K : Nat} {M : MapV} (h : MapIs w b N M K) (e : w'.heap[b]? = w.heap[b]?) : MapIs w' b N M K := by
  obtain ⟨D, ⟨es, c, h1, h2⟩, h3⟩ := h
  exact ⟨D, ⟨es, c, e.trans h1, h2⟩, h3⟩
theorem MapIs.lt {w : World} {b N K : Nat} {M : MapV} (h : MapIs w b N M K) : b < w.heap.size := by
  obtain ⟨D, h1, _⟩ := h
  exact h1.lt
theorem MapIs.made (w : World) : MapIs (w.alloc (.map #[] 0)) w.heap.size 0 (fun _ => none) 0 :=
  ⟨.map [], World.ownsMap_made w _ _ _, rfl, fun _ => rfl, fun _ _ h => by cases h⟩
theorem MD.put {D : DataW Value} {M : MapV} {K : Nat} (h : MD D M K) (ht : Maps.Tidy D) (s : ByteArray) (v : Value) : MD (D.put (kl s) (.held v)) (upd M s v) (if (M s).isSome then K else K + 1) := by
  refine ⟨?_, fun x => ?_, fun x u hx zd => ?_⟩
  · rw [Maps.size_put ht, h.has, h.size]
  · unfold upd
    by_cases e : nb x = nb s
    · rw [if_pos e, nb_inj e, Maps.has_put_same ht.isMap (isKey s)]; rfl
    · rw [if_neg e, Maps.has_put_other (kl_ne e), h.has]
  · unfold upd at hx
    by_cases e : nb x = nb s
    · rw [if_pos e] at hx
      injection hx with hx
      subst hx
      rw [nb_inj e, Maps.atKey_put_same ht.isMap (isKey s)]
    · rw [if_neg e] at hx
      rw [Maps.atKey_put_other (kl_ne e), h.at_ x u hx]
theorem MapIs.put {w w' : World} {b N K : Nat} {M : MapV} {D : DataW Value} {s : ByteArray} {v : Value} (ho : w.ownsMap Tryd.prog 9 RV b N D) (h : MD D M K) (ho2 : w'.ownsMap Tryd.prog 9 RV b (N + 1) (D.put (kl s) (.held v))) :
    MapIs w' b (N + 1) (upd M s v) (if (M s).isSome then K else K + 1) := ⟨_, ho2, h.put (ho.tidy strKeyed) s v⟩

def zeroMA : Value := .agg #[.string ⟨#[]⟩, .nilIface, .slice none 0 0]
set_option maxRecDepth 100000 in
theorem zero_ma (w : World) : (zeroValue 87).run Tryd.prog w = .ok zeroMA w := by kernel_rfl
theorem macMap : Tryd.prog.underlying 137 = some (.map 9 87) := by kernel_rfl
theorem attMap : Tryd.prog.underlying 100 = some (.map 9 92) := by kernel_rfl
set_option maxRecDepth 100000 in
theorem look_none {w : World} {b N K : Nat} {M : MapV} (h : MapIs w b N M K) (s : ByteArray) (hs : s.size ≤ maxLen) (h0 : M s = none) :
    (Instr.lookup 137 (.map (some b)) (.string s) true).run Tryd.prog w = .ok (.tuple #[zeroMA, .bool false]) w := by
  obtain ⟨D, ho, hd⟩ := h
  obtain ⟨v, ps, h1, h2⟩ := ho.look_ok strKeyed macMap (zero_ma w) (zd := .held zeroMA) (zp := []) rfl (key_of s hs)
  have hf : Maps.has D (kl s) = false := by rw [hd.has, h0]; rfl
  rw [hf] at h1
  rw [Maps.atKey_of_not_has hf] at h2
  injection h2 with h2
  injection h2 with h2 _
  injection h2 with h2
  subst h2
  exact h1
set_option maxRecDepth 100000 in
set_option maxHeartbeats 1000000 in
theorem expandNone_any (mb macb N rb : Nat) (s : ByteArray) (w : World) (hs : s.size ≤ maxLen) (h1 : w.cell? ⟨mb, 1, none⟩ = some (.map (some macb))) (hm : MapIs w macb N (fun _ => none) 0) :
    Calls Tryd.prog 127 #[.pointer (some ⟨mb, 0, none⟩), .string s, .map (some rb)] w fun e w' => e = .returned (.bool false) ∧ Below w.heap.size w w' := by
  have hl := look_none hm s hs rfl
  unfold zeroMA at hl
  clear hm
  go_enter Tryd.func127, Tryd.ntmps127
  go_wp2
  go_ret
  exact ⟨rfl, (Below.refl _ _).alloc (Nat.le_refl _) _⟩
end Go.Proofs.YteipeagdflcjjaaDoor.Am
