/- impl.AttrMatch where at most one attribute is told. -/
import Derived.Test.YteipeagdflcjjaaDoorQAmX
import Derived.Test.YteipeagdflcjjaaDoorQAmC
import Derived.Test.YteipeagdflcjjaaDoorQLawAtLine
import Derived.Test.YteipeagdflcjjaaDoorPart
namespace Go.Proofs.YteipeagdflcjjaaDoor.Am
open Go.RowKit
open Go.Maps (Keyed string_keyed)
set_option linter.unusedSimpArgs false
set_option linter.unusedVariables false

/-- The lines by what they say. -/
structure Spec where
  q : Nat
  nm : Nat → ByteArray
  PL : Nat → List ByteArray
  s : Nat → Nat
  cnt : Nat → Nat
  att : Nat → Nat → AttrT
def Spec.says (S : Spec) (dv : Value) (i : Nat) (a : MA) : Prop := a.nm = S.nm i ∧ a.n = S.cnt i ∧ a.att = S.att i ∧ ∃ p, a.pat = some p ∧ p.2.1 = dv ∧ p.2.2.2.2.map nb = (S.PL i).map nb
structure Spec.Ok (S : Spec) : Prop where
  q : S.q ≤ 1000
  cnt : ∀ i, i < S.q → S.cnt i ≤ 1000
  names : ∀ i, i < S.q → ∀ j, j < S.cnt i → (S.att i j).1.size ≤ maxLen
  parts : ∀ i, i < S.q → Parts (S.PL i) (S.s i)
noncomputable def Spec.hit (S : Spec) (dn : Nat) (d : Nat → ByteArray) (pn : Nat) (f : Nat → ByteArray) (i : Nat) : Bool := hitB (S.PL i) (S.s i) dn d pn f
/-- What is gathered, by what the lines say. -/
def mgoF (nn : Nat) (hit : Nat → Bool) (cnt : Nat → Nat) (att : Nat → Nat → AttrT) : Nat → RM → Bool → RM × Bool
  | 0, r, m => (r, m)
  | k + 1, r, m => if 0 < nn ∧ nn = r.K then (r, m) else if hit k = true then mgoF nn hit cnt att k (r.puts (cnt k) (att k)) true else mgoF nn hit cnt att k r m
theorem mgo_F {nn : Nat} {hit : Nat → Bool} {L : List MA} {S : Spec} {dv : Value} (h : ∀ i a, L[i]? = some a → S.says dv i a) : ∀ k, k ≤ L.length → ∀ r m, mgo nn hit L k r m = mgoF nn hit S.cnt S.att k r m := by
  intro k
  induction k with
  | zero => intro _ r m; rfl
  | succ k ih =>
    intro hk r m
    unfold mgo mgoF
    have ha : L[k]? = some L[k] := List.getElem?_eq_getElem (by omega)
    obtain ⟨_, h2, h3, _⟩ := h k _ ha
    rw [ha]
    dsimp only
    rw [h2, h3, ih (by omega), ih (by omega)]
theorem map_nb_inj : ∀ {A B : List ByteArray}, A.map nb = B.map nb → A = B := by
  intro A
  induction A with
  | nil => intro B h; cases B with
    | nil => rfl
    | cons b B => simp at h
  | cons a A ih => intro B h; cases B with
    | nil => simp at h
    | cons b B =>
      rw [List.map_cons, List.map_cons] at h
      injection h with h1 h2
      rw [nb_inj h1, ih h2]
theorem setCell_id {w : World} {b i : Nat} {cs : Array Value} {T : TypeId} {fr : Nat × Nat} {v : Value} (h : w.heap[b]? = some (.cells cs T fr)) (hi : cs[i]? = some v) (k : Nat) : (w.setCell ⟨b, i, none⟩ v).heap[k]? = w.heap[k]? := by
  by_cases e : k = b
  · subst e
    rw [Lib.heap_setCell_same h v, h]
    congr 2
    apply Array.ext_getElem?
    intro j
    rw [Array.getElem?_setIfInBounds]
    by_cases hj : i = j
    · subst hj
      rw [if_pos rfl, hi]
      obtain ⟨hlt, _⟩ := Array.getElem?_eq_some_iff.1 hi
      rw [if_pos hlt]
    · rw [if_neg hj]
  · exact Below.heap_setCell _ _ _ _ e
theorem hits_ok {S : Spec} {L : List MA} {A' pA : Option Addr} {dn c' pn pc : Nat} {d f : Nat → ByteArray} {w : World} (hS : S.Ok) (hlen : L.length = S.q) (hsay : ∀ i a, L[i]? = some a → S.says (.slice A' dn c') i a) (hel : ∀ a ∈ L, ∃ bad, ElemAt w bad a)
    (hd : Strs w A' dn d) (hdn : dn ≤ 100) (hp : Strs w pA pn f) (hpn : 1 ≤ pn ∧ pn ≤ 100) (hpc : pn ≤ pc ∧ pc ≤ maxLen) (hnm : ∀ i, i < pn → Nm (f i)) (k : Nat) (a : MA) (ha : L[k]? = some a) :
    ∃ pb, a.pv = .iface 152 (.pointer (some ⟨pb, 0, none⟩)) ∧ ∀ W, Below w.heap.size w W → Calls Tryd.prog 135 #[.pointer (some ⟨pb, 0, none⟩), .slice pA pn pc] W (HitPost (S.hit dn d pn f k) W) := by
  obtain ⟨_, _, _, p, hap, hdv, hpl⟩ := hsay k a ha
  obtain ⟨bad, he⟩ := hel a (List.mem_of_getElem? ha)
  obtain ⟨h1, _, h3, h4, h5⟩ := he.pat p hap
  have hpl2 := map_nb_inj hpl
  have hk : k < S.q := by rw [← hlen]; exact (List.getElem?_eq_some_iff.1 ha).1
  refine ⟨p.1, by unfold MA.pv; rw [hap], fun W hb => ?_⟩
  rw [hpl2] at h3 h4 h5
  rw [hdv] at h3
  exact patMatch_any p.1 (S.PL k) (S.s k) dn c' pn pc p.2.2.2.1 A' pA p.2.2.1 d f W ((hb.block p.1 h1).trans h3) h4 (h5.rd.below hb) (hS.parts k hk) (hd.below hb) hdn (hp.below hb) hpn ⟨hpc.1, by have := hpc.2; unfold maxLen at this; omega⟩ hnm
theorem atts_ok {S : Spec} {L : List MA} {dv : Value} {w : World} (hS : S.Ok) (hlen : L.length = S.q) (hsay : ∀ i a, L[i]? = some a → S.says dv i a) (hel : ∀ a ∈ L, ∃ bad, ElemAt w bad a) (k : Nat) (a : MA) (ha : L[k]? = some a) :
    a.n ≤ 1000 ∧ Rd w a.A a.n (fun i => attrV (a.att i)) ∧ ∀ i, i < a.n → (a.att i).1.size ≤ maxLen := by
  obtain ⟨_, h2, h3, _⟩ := hsay k a ha
  obtain ⟨bad, he⟩ := hel a (List.mem_of_getElem? ha)
  have hk : k < S.q := by rw [← hlen]; exact (List.getElem?_eq_some_iff.1 ha).1
  exact ⟨he.few, he.atts.rd, fun i hi => by rw [h3]; exact hS.names k hk i (by rw [← h2]; exact hi)⟩
theorem ranges_heap {w w' : World} {P : Program} {k : TypeId} {R : Value → Option (DataW Value × List MemPlace)} {b r n : Nat} {D : DataW Value} {left : Lit → Bool} {cnt : Nat} (h : w.ranges P k R b r n D left cnt) (hb : w'.heap[b]? = w.heap[b]?) (hr : w'.heap[r]? = w.heap[r]?) : w'.ranges P k R b r n D left cnt := by
  obtain ⟨es, clock, since, seen, c0, h1, F, hs, hD, h2, rest⟩ := h
  exact ⟨es, clock, since, seen, c0, hb.trans h1, F, hs, hD, hr.trans h2, rest⟩
theorem ownsRow_heap {w w' : World} {B : Nat} {e : TypeId} {size n : Nat} {v : Value} {xs : List Value} (h : w.ownsRow B e size v n xs) (hk : ∀ q, v.ownBlock = some q → w'.heap[q]? = w.heap[q]?) : w'.ownsRow B e size v n xs := by
  refine ⟨h.1, ?_⟩
  rcases h.2 with hn | ⟨g, cap, cur, rfl, hbg, hgg, rest⟩
  · exact .inl hn
  · exact .inr ⟨g, cap, cur, rfl, hbg, by rw [hk g rfl]; exact hgg, rest⟩
theorem ownsRow_mono {w : World} {B B' : Nat} {e : TypeId} {size n : Nat} {v : Value} {xs : List Value} (h : w.ownsRow B e size v n xs) (hB : B' ≤ B) : w.ownsRow B' e size v n xs := by
  refine ⟨h.1, ?_⟩
  rcases h.2 with hn | ⟨g, cap, cur, rfl, hbg, rest⟩
  · exact .inl hn
  · exact .inr ⟨g, cap, cur, rfl, Nat.le_trans hB hbg, rest⟩
def OutAt (w : World) (B : Nat) (v : Value) (l : List AttrT) : Prop := w.ownsRow B 48 3 v l.length (l.flatMap out3)
/-- All that was gathered, in some order. -/
def Told (r : RM) (l : List AttrT) : Prop := l.length = r.K ∧ ∀ a, a ∈ l ↔ r.M a.1 = some a
def AmPost (r : RM) (m : Bool) (w : World) (e : Ending) (w' : World) : Prop :=
  ∃ v l, e = .returned (.tuple #[v, .bool m, .string ⟨#[]⟩]) ∧ Told r l ∧ OutAt w' w.heap.size v l ∧ Below w.heap.size w w'

set_option maxRecDepth 100000 in
set_option maxHeartbeats 8000000 in
theorem attrMatch_any (text : ByteArray) (S : Spec) (at_ m : Nat → Nat) (dA pA nA : Option Addr) (dn dc pn pc nn nc : Nat) (d f nf : Nat → ByteArray) (allow : Bool) (ea : Addr) (msg : ByteArray) (w : World)
    (ht : 1 ≤ text.size ∧ text.size ≤ 2000) (hS : S.Ok) (hl : LinesAt (fun i => bx text i) text.size S.q at_ m)
    (hp : ∀ i, i < S.q → ∀ A c W, Calls Tryd.prog 40 #[.string (lineT (fun i => bx text i) (at_ i) (m i)), .slice A dn c, .bool allow] W (LinePost (S.says (.slice A dn c) i) W))
    (hE : ErrAt w 6 ea msg) (hd : Strs w dA dn d) (hdn : dn ≤ 100) (hpt : Strs w pA pn f) (hpn : 1 ≤ pn ∧ pn ≤ 100) (hnm : ∀ i, i < pn → Nm (f i)) (hn : Strs w nA nn nf) (hnn : nn ≤ 1000)
    (hgood : ∀ s a, (mgoF nn (S.hit dn d pn f) S.cnt S.att S.q RM.empty false).1.M s = some a → nb a.1 = nb s) (hone : (mgoF nn (S.hit dn d pn f) S.cnt S.att S.q RM.empty false).1.K ≤ 1) :
    Calls Tryd.prog 29 #[.string text, .slice dA dn dc, .bool allow, .slice pA pn pc, .slice nA nn nc] w (AmPost (mgoF nn (S.hit dn d pn f) S.cnt S.att S.q RM.empty false).1 (mgoF nn (S.hit dn d pn f) S.cnt S.att S.q RM.empty false).2 w) := by
  obtain ⟨ht1, ht2⟩ := ht
  have HS := Lib.hid hS; have HL := Lib.hid hl; have HP := Lib.hid hp; have HE := Lib.hid hE; have HD := Lib.hid hd; have HPT := Lib.hid hpt; have HNM := Lib.hid hnm; have HN := Lib.hid hn; have HONE := Lib.hid hone
  obtain ⟨hpn1, hpn2⟩ := hpn
  clear hS hl hp hE hd hpt hnm hn hone
  obtain ⟨v1, w1, hcv, c1, rfl, hc1, hc1m, hcells, hb1, hs1⟩ := run_bytes w text (by omega)
  have HCE := Lib.hid hcells; have HB1 := Lib.hid hb1; have HS1 := Lib.hid hs1
  clear hcells hb1 hs1
  go_enter Tryd.func29, Tryd.ntmps29
  go_wp2_with fail
  with_reducible refine (newReader_any w.heap.size text.size c1 _).mono ?_
  rintro e w2 ⟨rfl, hr2, hb2, hs2⟩
  have HR2 := Lib.hid hr2; have HB2 := Lib.hid hb2; have HS2 := Lib.hid hs2
  have HSW : Hid (w1.heap.size = w.heap.size + 1 ∧ w2.heap.size = w.heap.size + 2) := Lib.hid ⟨HS1.out, by rw [hs2, HS1.out]⟩
  have HB02 : Hid (Below w.heap.size w w2) := Lib.hid (HB1.out.trans (hb2.mono (by rw [HS1.out]; omega)))
  have HD2 : Hid (Strs w2 dA dn d) := Lib.hid (HD.out.below HB02.out)
  clear hr2 hb2 hs2 hcv
  go_wp2_with (at_builtin; refine wpList_copy _ rfl (.tmp 26) rfl dA dn dc d rfl (by omega) HD2.out ?_; intro A3 c3 w3 hs3 hc3 hm3 hb3 hg3; have HS3 := Lib.hid hs3; have HB3 := Lib.hid hb3; have HG3 := Lib.hid hg3; have HC3 := Lib.hid (And.intro hc3 hm3); clear hs3 hc3 hm3 hb3 hg3)
  have hmx : c1 ≤ 9223372036854775807 := by unfold maxLen at hc1m; omega
  have HSZ3 : Hid (w1.heap.size < w3.heap.size ∧ w.heap.size < w3.heap.size) := Lib.hid (by have := HSW.out; have := HB3.out.size; omega)
  have HB03 : Hid (Below w.heap.size w w3) := Lib.hid (HB02.out.trans (HB3.out.mono (by have := HSW.out; omega)))
  have HB13 : Hid (Below w1.heap.size w1 w3) := Lib.hid (HB2.out.trans (HB3.out.mono (by have := HSW.out; omega)))
  have HR3 : Hid (RdrAt w3 w1.heap.size w.heap.size text.size c1 0 (-1)) := Lib.hid ((HB3.out.block _ (by have := HSW.out; omega)).trans HR2.out)
  have HC3b : Hid (∀ i, i < text.size → w3.cell? ⟨w.heap.size, i, none⟩ = some (.int .u8 (bx text i : Nat))) := Lib.hid fun i hi => (HB13.out.cell (p := ⟨w.heap.size, i, none⟩) (show w.heap.size < w1.heap.size by have := HSW.out; omega)).trans (HCE.out i hi)
  have HE3 : Hid (ErrAt w3 6 ea msg) := Lib.hid (errAt_heap HE.out (fun k hk => HB03.out.block k (by rcases hk with rfl | rfl; exact HE.out.lt.1; exact HE.out.lt.2)) HB03.out.size)
  have HEB : Hid (6 < w1.heap.size ∧ ea.block < w1.heap.size) := Lib.hid (by have := HE.out.lt; have := HSW.out; omega)
  have HNE : Hid (w.heap.size ≠ w1.heap.size) := Lib.hid (by have := HSW.out; omega)
  clear HR2 HCE HB1 HS1 HB2 HS2
  with_reducible refine (readAttributes_any w1.heap.size w1.heap.size w.heap.size text.size c1 S.q (fun i => bx text i) at_ m (fun i => S.says (.slice A3 dn c3) i) A3 dn c3 allow ea msg w3 ⟨ht1, ht2, hc1, hmx⟩ HS.out.q (Nat.le_refl _) HNE.out HSZ3.out HR3.out HC3b.out HL.out HE3.out HEB.out (fun i hi W => HP.out i hi A3 c3 W)).mono ?_
  rintro e w4 ⟨sv, L, rfl, hlen, hsay, ⟨B2, hB2, hst⟩, hb4, hkp⟩
  have HB04 : Hid (Below w.heap.size w w4) := Lib.hid (HB03.out.trans (hb4.mono (by have := HSW.out; omega)))
  have HD4 : Hid (Strs w4 A3 dn d) := Lib.hid fun i hi => by
    obtain ⟨b, off, e1, e2, e3⟩ := HS3.out i hi
    have := HG3.out _ e1
    exact ⟨b, off, e1, Nat.lt_of_lt_of_le e2 hb4.size, (World.cell?_of_block (a := ⟨b, off + i, none⟩) (hkp b e2 (by have := HSW.out; dsimp only at *; omega))).trans e3⟩
  have HPT4 : Hid (Strs w4 pA pn f) := Lib.hid (HPT.out.below HB04.out)
  have HN4 : Hid (Strs w4 nA nn nf) := Lib.hid (HN.out.below HB04.out)
  have HLEN := Lib.hid hlen; have HSAY := Lib.hid hsay
  have HROWS : Hid (RowsAt w4 sv L) := Lib.hid hst.rows
  have HEL : Hid (∀ a ∈ L, ∃ bad, ElemAt w4 bad a) := Lib.hid fun a ha => ⟨_, hst.2 a ha⟩
  have HOB : Hid (∀ b, sv.ownBlock = some b → b < w4.heap.size) := Lib.hid fun b e => (hst.1.lt b e).2
  have HPNN : Hid (∀ a ∈ L, a.pat ≠ none) := Lib.hid fun a ha => by
    obtain ⟨i, hi⟩ := List.getElem?_of_mem ha
    obtain ⟨_, _, _, p, hp, _⟩ := hsay i a hi
    rw [hp]; exact fun e => by cases e
  have hL : L.length ≤ 1000 := by rw [hlen]; exact HS.out.q
  clear hlen hsay hst hB2 hb4 hkp HD HPT HN HB02 HB03 HB13 HR3 HC3b HE3 HEB HNE HSZ3 HS3 HB3 HG3 HD2
  have hna : ∀ (b : Nat) (w : World), (nilAhead 321 136 (.pointer (some ⟨b, 0, none⟩)) "Match").run Tryd.prog w = .ok (some false) w := fun _ _ => by kernel_rfl
  have hme : ∀ (b : Nat) (w : World), (method 321 136 (.pointer (some ⟨b, 0, none⟩)) "Match").run Tryd.prog w = .ok (126, .pointer (some ⟨b, 0, none⟩)) w := fun _ _ => by kernel_rfl
  obtain ⟨R, hR⟩ : ∃ R, mgoF nn (S.hit dn d pn f) S.cnt S.att S.q RM.empty false = R := ⟨_, rfl⟩
  have HMG : Hid (mgo nn (S.hit dn d pn f) L L.length RM.empty false = R) := Lib.hid (by rw [mgo_F HSAY.out L.length (Nat.le_refl _), HLEN.out, hR])
  have HRR := Lib.hid hR
  have HGOOD : Hid (∀ s a, R.1.M s = some a → nb a.1 = nb s) := Lib.hid (by rw [← hR]; exact hgood)
  have HONE2 : Hid (R.1.K ≤ 1) := Lib.hid (by rw [← hR]; exact HONE.out)
  clear hR HONE hgood
  go_upto_region 4 with (fail)
  go_cut [15, 16] (fun mv bv wx => ∃ N rb : Nat, mv = .map (some rb) ∧ bv = .bool R.2 ∧ ResAt wx rb N R.1 ∧ Below w.heap.size w wx)
  case first =>
   go_region_law (first | (go_simp; go_at_call 44; refine (newMatcher_any sv L _ hL HPNN.out (by exact HROWS.out) (by exact HOB.out)).mono ?_; rintro e w5 ⟨macb, rfl, hm5, hmap5, hb5⟩; have HM5 := Lib.hid hm5; have HMA5 := Lib.hid hmap5; have HB5 : Hid (Below w4.heap.size w4 w5) := Lib.hid (by first | exact hb5 | exact (Below.refl _ _).drew.trans hb5); clear hm5 hmap5 hb5) | (refine step_copy _ rfl (.tmp 39) rfl pA pn pc f rfl (by omega) (HPT4.out.below HB5.out) ?_; intro A6 c6 w6 hs6 hc6 hm6 hb6 hg6; have HS6 := Lib.hid hs6; have HC6 := Lib.hid (And.intro hc6 hm6); have HB6 := Lib.hid hb6; clear hs6 hc6 hm6 hb6 hg6) | (refine step_copy _ rfl (.tmp 41) rfl nA nn nc nf rfl hnn (HN4.out.below (HB5.out.trans (HB6.out.mono HB5.out.size))) ?_; intro A7 c7 w7 hs7 hc7 hm7 hb7 hg7; have HB7 := Lib.hid hb7; clear hs7 hc7 hm7 hb7 hg7; have HB57 : Hid (Below w5.heap.size w5 w7) := Lib.hid (HB6.out.trans (HB7.out.mono HB6.out.size)); have HB47 : Hid (Below w4.heap.size w4 w7) := Lib.hid (HB5.out.trans (HB57.out.mono HB5.out.size)); have HM7 : Hid (MatAt w7 w4.heap.size macb sv) := Lib.hid ((HB57.out.block _ (Array.getElem?_eq_some_iff.1 HM5.out).1).trans HM5.out); have HMA7 : Hid (MapIs w7 macb 0 (fun _ => none) 0) := Lib.hid (HMA5.out.kept (HB57.out.block _ HMA5.out.lt)); have HEL7 : Hid (∀ a ∈ L, ∃ bad, ElemAt w7 bad a) := Lib.hid (fun a ha => (HEL.out a ha).imp fun bad he => he.below HB47.out); have HS7 : Hid (Strs w7 A6 pn f) := Lib.hid (HS6.out.below HB7.out); have HD7 : Hid (Strs w7 A3 dn d) := Lib.hid (HD4.out.below HB47.out)) | (go_simp; go_at_call 126; refine (mMatch_any w4.heap.size macb sv L A6 A7 pn c6 nn c7 (S.hit dn d pn f) w7 hL HM7.out HMA7.out (HROWS.out.below HB47.out) (atts_ok HS.out HLEN.out HSAY.out HEL7.out) hnn (hits_ok HS.out HLEN.out HSAY.out HEL7.out HD7.out hdn HS7.out ⟨hpn1, hpn2⟩ HC6.out HNM.out)).mono ?_; rintro e w8 ⟨N, rfl, hres, hb8⟩; have HRES := Lib.hid hres; have HB8 := Lib.hid hb8; clear hres hb8))
   all_goals
    go_wp2
    go_meet
    case rel => exact ⟨N, w7.heap.size, rfl, by rw [HMG.out], by rw [← HMG.out]; exact HRES.out, HB04.out.trans ((HB47.out.mono HB04.out.size).trans (HB8.out.mono (Nat.le_trans HB04.out.size HB47.out.size)))⟩
  case rest =>
    clear HPT4 HN4 HROWS HEL HOB HPNN HD4 HB04 HSAY HLEN HMG
    obtain ⟨N, rb, rfl, rfl, hres, hbw⟩ := hcut
    have HRES := Lib.hid hres; have HBW := Lib.hid hbw
    clear hres hbw
    obtain ⟨D, ho, hd⟩ := HRES.out
    obtain ⟨i0, hi, hz0, hz1, hz2⟩ := info_parts outInfo
    go_wp2_with (at_range; refine wpList_range_own _ rfl _ _ rfl 9 92 strKeyed attMap RV rb N D rfl ho ?_; intro w9 hrg hg9 hs9)
    have HRG := Lib.hid hrg; have HMD := Lib.hid hd
    have HBW9 : Hid (Below w.heap.size w w9) := Lib.hid (HBW.out.grown hg9 HBW.out.size (fun q e => by cases e))
    have HITW : Hid (w.heap.size ≤ wc.heap.size) := Lib.hid HBW.out.size
    generalize wc.heap.size = it at *
    have HIT : Hid (it < w9.heap.size ∧ rb < w9.heap.size) := Lib.hid ⟨hrg.lt, hrg.owns.lt⟩
    have HLE9 : Hid (w.heap.size ≤ w9.heap.size) := Lib.hid HBW9.out.size
    clear ho hd hrg hg9 hs9 HRES HBW
    go_frame
    have hinK : ∀ key klit, keyOf Tryd.prog 9 key = some klit → ∃ x, key = Value.string x := fun key klit h => by
      obtain ⟨s, e, _⟩ := WideMaps.string_of_keyOf strKind h
      exact ⟨s, e⟩
    have hinV : ∀ v y, RV v = some y → ∃ c : Value, v = (fun u => u) c := fun v _ _ => ⟨v, rfl⟩
    go_loopw [10] (fun lv wr => ∃ (left : Lit → Bool) (cnt : Nat) (l : List AttrT), wr.ranges Tryd.prog 9 RV rb it N D left cnt ∧ (∀ s, left (kl s) = true → (R.1.M s).isSome = true) ∧ (∀ a, a ∈ l ↔ (R.1.M a.1 = some a ∧ left (kl a.1) = false)) ∧ l.length + cnt = R.1.K ∧ OutAt wr w9.heap.size lv l ∧ Below w.heap.size w wr ∧ w9.heap.size ≤ wr.heap.size) (fun _ wr => wr.rangeLeft rb it)
    case atStart =>
      refine ⟨_, _, [], HRG.out, fun s h => ?_, fun a => ⟨fun h => (by cases h), fun ⟨h1, h2⟩ => ?_⟩, ?_, World.ownsRow_nil _ _ _ _, HBW9.out, Nat.le_refl _⟩
      · rw [HMD.out.has] at h
        unfold RM.val at h
        cases hm : R.1.M s with
        | none => rw [hm] at h; cases h
        | some a => rfl
      · rw [HMD.out.has] at h2
        unfold RM.val at h2
        rw [h1] at h2; cases h2
      · rw [HMD.out.size]; simp
    case round =>
      clear HRG HBW9
      obtain ⟨left, cnt, l, hrg, hsome, hmem, hcnt, hout, hbel, hsz9⟩ := hrel
      have HSOME := Lib.hid hsome; have HMEM := Lib.hid hmem; have HOUT := Lib.hid hout; have HB := Lib.hid hbel; have HSZ9 := Lib.hid hsz9; have HRG0 := Lib.hid hrg
      clear hsome hmem hout hbel hsz9
      go_wp2_with (at_next; refine wpList_next_ranges _ rfl _ rfl 9 strKeyed RV Value.string (fun v : Value => v) hinK hinV rb it N D left cnt rfl hrg ?_ ?_)
      · intro hc0 hl0
        have HTOLD : Hid (Told R.1 l) := Lib.hid ⟨by omega, fun a => (HMEM.out a).trans ⟨fun h => h.1, fun h => ⟨h, hl0 _⟩⟩⟩
        clear hc0 hl0 hrg
        go_wp2
        go_ret3
        exact ⟨_, l, by rw [HRR.out]; rfl, by rw [HRR.out]; exact HTOLD.out, ownsRow_mono HOUT.out HLE9.out, HB.out⟩
      · intro x c klit y1 y2 w10 cnt' hkey hleft hRV hat hrg' hlt hg hs hen
        obtain ⟨s0, hs0, hkl, hsz⟩ := WideMaps.string_of_keyOf strKind hkey
        injection hs0 with hs0
        subst hs0
        have hkl : klit = kl x := hkl
        subst hkl
        obtain ⟨a, ha⟩ := Option.isSome_iff_exists.mp (HSOME.out x hleft)
        have hax : a.1 = x := nb_inj (HGOOD.out x a ha)
        have hc : c = attrV a := by
          injection hRV with hRV
          injection hRV with hRV _
          have h1 := hat (.lit (.bool true))
          rw [HMD.out.at_ x (attrV a) (by unfold RM.val; rw [ha]; rfl), ← hRV] at h1
          injection h1 with h1
          exact h1.symm
        subst hc
        obtain ⟨a1, a2, a3⟩ := a
        have hax : a1 = x := hax
        subst hax
        have hl0 : l.length = 0 ∧ cnt' = 0 ∧ cnt = 1 := by have := HONE2.out; omega
        obtain ⟨hl0, hc0, hc1⟩ := hl0
        have hlnil := List.length_eq_zero_iff.mp hl0
        subst hlnil
        have HRG1 := Lib.hid hrg'
        have HB10 : Hid (Below w.heap.size w w10) := Lib.hid (HB.out.grown hg HB.out.size (fun q e => by injection e with e; have := HITW.out; omega))
        have HA := Lib.hid ha
        have hown10 : ∀ q, u10.ownBlock = some q → w9.heap.size ≤ q := fun q e => (HOUT.out.lt q e).1
        have HO10 : Hid (OutAt w10 w9.heap.size u10 []) := Lib.hid (ownsRow_heap HOUT.out (fun q e => hg.block q (HOUT.out.lt q e).2 (fun e2 => by injection e2 with e2; have := hown10 q e; have := HIT.out; omega)))
        have HSZ10 : Hid (w9.heap.size ≤ w10.heap.size) := Lib.hid (by rw [hs]; exact HSZ9.out)
        have HOB10 := Lib.hid hown10
        have hform : ∃ A0 c0, u10 = .slice A0 0 c0 := by
          rcases HO10.out.2 with ⟨h, _⟩ | ⟨g, cap, cur, h, _⟩
          · exact ⟨none, 0, h⟩
          · exact ⟨_, cap, h⟩
        obtain ⟨A0, c00, hu10⟩ := hform
        have HLT0 := Lib.hid hlt
        clear hrg' hg hs ha hown10 HOUT hkey hRV hat hax hrg hlt
        rw [show attrV (a1, a2, a3) = .iface 127 (.agg #[.string a1, .int .u8 (a2 : Nat), .string a3]) from rfl] at hen ⊢
        go_wp2_with fail
        with_reducible refine (attr_any a1 a2 a3 _).mono ?_
        rintro e w11 ⟨rfl, hb11⟩
        have HRG11 : Hid (w11.ranges Tryd.prog 9 RV rb it N D (fun z => left z && !z.sameKey (kl a1)) cnt') := Lib.hid (ranges_heap HRG1.out (hb11.block _ HRG1.out.owns.lt) (hb11.block _ HRG1.out.lt))
        have HO11 : Hid (OutAt w11 w9.heap.size u10 []) := Lib.hid (ownsRow_heap HO10.out (fun q e => hb11.block q (HO10.out.lt q e).2))
        have HB11 : Hid (Below w.heap.size w w11) := Lib.hid (HB10.out.trans (hb11.mono HB10.out.size))
        have HSZ11 : Hid (w9.heap.size ≤ w11.heap.size) := Lib.hid (Nat.le_trans HSZ10.out hb11.size)
        clear hb11 hen HRG1 HO10 HB10 HSZ10
        subst hu10
        go_upto_region 10 with (fail)
        go_wp2_with (at_builtin; refine wpList_append_lies _ rfl (.tmp 59) (.tmp 61) 44 rfl w9.heap.size 48 i0 (.agg #[.string ⟨#[]⟩, .string ⟨#[]⟩, .int .i64 0]) 3 40 outsKind hi hz0 hz1 hz2 rfl (by decide) _ 0 [] rfl (World.ownsRow.alloc (World.ownsRow.alloc HO11.out _) _) ⟨w11.heap.size + 1, 0, none⟩ 1 1 (out3 (a1, a2, a3)) rfl rfl ?c1 (one_out _) (by decide) ?c3 ?c4 ?c5 _ rfl ?_)
        case c1 =>
          intro j u hj
          have h := news_out (w11.alloc (.cells #[.string a1, .string a3, .int .i64 (stN a2 : Nat)] 48)) (a1, a2, a3) j u hj
          rw [heap_new_size] at h
          exact h
        case c3 => unfold maxLen; omega
        case c4 => omega
        case c5 => have := HSZ11.out; first | omega | (rw [heap_new_size, heap_new_size]; omega)
        intro gg cap2 w12 hown hgrow hat hlt12
        have hgB : w9.heap.size ≤ gg := by
          rcases hown.2 with ⟨h, _⟩ | ⟨g, cap, cur, h, hb, _⟩
          · cases h
          · cases h; exact hb
        obtain ⟨cur, hcur⟩ : ∃ cur, w12.heap[gg]? = some (.cells cur 48 (0, 0)) := by
          rcases hown.2 with ⟨h, _⟩ | ⟨g, cap, cur, h, _, hg, _⟩
          · cases h
          · cases h; exact ⟨cur, hg⟩
        have hat3 : ∀ j v, (out3 (a1, a2, a3))[j]? = some v → cur[j]? = some v := fun j v hj => by
          have hc := hown.cells (g := gg) rfl j v hj
          have hadd : (⟨gg, 0, none⟩ : Addr).add j = ⟨gg, j, none⟩ := by unfold Addr.add; split <;> simp_all
          rw [hadd, Lib.cell_of_heap hcur] at hc
          exact hc
        have k0 := hat3 0 (.string a1) rfl
        have k1 := hat3 1 (.string a3) rfl
        have k2 := hat3 2 (.int .i64 (stN a2 : Nat)) rfl
        have d0 : w12.cell? ⟨gg, 0, none⟩ = some (.string a1) := by rw [Lib.cell_of_heap hcur]; exact k0
        have d1 : w12.cell? ⟨gg, 1, none⟩ = some (.string a3) := by rw [Lib.cell_of_heap hcur]; exact k1
        have d2 : w12.cell? ⟨gg, 2, none⟩ = some (.int .i64 (stN a2 : Nat)) := by rw [Lib.cell_of_heap hcur]; exact k2
        have f0 : w12.frozen? ⟨gg, 0, none⟩ = false := Lib.frozen_of_heap hcur 0
        have f1 : w12.frozen? ⟨gg, 1, none⟩ = false := Lib.frozen_of_heap hcur 1
        have f2 : w12.frozen? ⟨gg, 2, none⟩ = false := Lib.frozen_of_heap hcur 2
        have hold : ∀ q, q < w11.heap.size → (∀ b, A0 = some b → b.block ≠ q) → w12.heap[q]? = w11.heap[q]? := fun q h1 h2 =>
          (hgrow.block q (by rw [heap_new_size, heap_new_size]; omega) (fun e => by
            cases A0 with
            | none => cases e
            | some b => injection e with e; exact h2 b rfl e.symm)).trans ((Below.heap_alloc _ _ _ (by rw [heap_new_size]; omega)).trans (Below.heap_alloc _ _ _ h1))
        have hobk : ∀ b, A0 = some b → w9.heap.size ≤ b.block := fun b e => HOB10.out b.block (by rw [e]; rfl)
        have hrow12 : w12.heap[w11.heap.size]? = some (.cells #[.string a1, .string a3, .int .i64 (stN a2 : Nat)] 48 (0, 0)) :=
          (hgrow.block _ (by rw [heap_new_size, heap_new_size]; omega) (fun e => by
            have := (HO11.out.lt w11.heap.size e.symm).2
            omega)).trans ((Below.heap_alloc _ _ _ (by rw [heap_new_size]; omega)).trans (heap_new w11 _))
        have g0 : w12.cell? ⟨w11.heap.size, 0, none⟩ = some (.string a1) := by rw [Lib.cell_of_heap hrow12]; rfl
        have g1 : w12.cell? ⟨w11.heap.size, 1, none⟩ = some (.string a3) := by rw [Lib.cell_of_heap hrow12]; rfl
        have g2 : w12.cell? ⟨w11.heap.size, 2, none⟩ = some (.int .i64 (stN a2 : Nat)) := by rw [Lib.cell_of_heap hrow12]; rfl
        have HRG12 : Hid (w12.ranges Tryd.prog 9 RV rb it N D (fun z => left z && !z.sameKey (kl a1)) cnt') := Lib.hid (ranges_heap HRG11.out (hold rb HRG11.out.owns.lt (fun b e => by have := hobk b e; have := HIT.out; omega)) (hold it HRG11.out.lt (fun b e => by have := hobk b e; have := HIT.out; omega)))
        have HB12 : Hid (Below w.heap.size w w12) := Lib.hid (((HB11.out.alloc HB11.out.size _).alloc (by rw [heap_new_size]; have := HB11.out.size; omega) _).grown hgrow (by rw [heap_new_size, heap_new_size]; have := HB11.out.size; omega) (fun q e => by have := HOB10.out q e; have := HLE9.out; omega))
        have HOWN := Lib.hid hown; have HCUR := Lib.hid hcur; have HK := Lib.hid (And.intro k0 (And.intro k1 k2)); have HGB := Lib.hid hgB
        have HSZ12 : Hid (w9.heap.size ≤ w12.heap.size) := Lib.hid (by have h1 := hgrow.size; rw [heap_new_size, heap_new_size] at h1; have := HSZ11.out; omega)
        clear hown hgrow hat hlt12 hcur hat3 k0 k1 k2 hold hobk hrow12 hgB
        generalize w11.heap.size = xb at *
        have HCE : Hid (w12.cell? ⟨gg, 0, none⟩ = some (.string a1) ∧ w12.cell? ⟨gg, 1, none⟩ = some (.string a3) ∧ w12.cell? ⟨gg, 2, none⟩ = some (.int .i64 (stN a2 : Nat)) ∧ w12.cell? ⟨xb, 0, none⟩ = some (.string a1) ∧ w12.cell? ⟨xb, 1, none⟩ = some (.string a3) ∧ w12.cell? ⟨xb, 2, none⟩ = some (.int .i64 (stN a2 : Nat))) := Lib.hid ⟨d0, d1, d2, g0, g1, g2⟩
        clear d0 d1 d2 f0 f1 f2 g0 g1 g2
        go_wp2
        go_loopw [20] (fun iv wx => iv = .int .i64 0 ∧ (∀ q : Nat, wx.heap[q]? = w12.heap[q]?) ∧ Below w.heap.size w wx ∧ w9.heap.size ≤ wx.heap.size) (fun _ _ => 0)
        case atStart => exact ⟨rfl, fun _ => rfl, HB12.out, HSZ12.out⟩
        case round =>
          obtain ⟨rfl, hheap, hbx, hszx⟩ := hrel
          have HSZX := Lib.hid hszx; clear hszx
          have HHEAP := Lib.hid hheap; have HBX := Lib.hid hbx
          have hcell : ∀ p : Addr, wr.cell? p = w12.cell? p := fun p => World.cell?_of_block (hheap p.block)
          have d0 := (hcell ⟨gg, 0, none⟩).trans HCE.out.1
          have d1 := (hcell ⟨gg, 1, none⟩).trans HCE.out.2.1
          have d2 := (hcell ⟨gg, 2, none⟩).trans HCE.out.2.2.1
          have g0 := (hcell ⟨xb, 0, none⟩).trans HCE.out.2.2.2.1
          have g1 := (hcell ⟨xb, 1, none⟩).trans HCE.out.2.2.2.2.1
          have g2 := (hcell ⟨xb, 2, none⟩).trans HCE.out.2.2.2.2.2
          have f0 : wr.frozen? ⟨gg, 0, none⟩ = false := Lib.frozen_of_heap ((hheap gg).trans HCUR.out) 0
          have f1 : wr.frozen? ⟨gg, 1, none⟩ = false := Lib.frozen_of_heap ((hheap gg).trans HCUR.out) 1
          have f2 : wr.frozen? ⟨gg, 2, none⟩ = false := Lib.frozen_of_heap ((hheap gg).trans HCUR.out) 2
          clear hheap hbx hcell
          go_wp2
          go_quiet (fail)
          go_wp2
          have h1 : (wr.drewN nq).heap[gg]? = some (.cells cur 48 (0, 0)) := (HHEAP.out gg).trans HCUR.out
          have z1 := fun k => setCell_id h1 HK.out.1 k
          have h2 := (z1 gg).trans h1
          have z2 := fun k => setCell_id h2 HK.out.2.1 k
          have h3 := (z2 gg).trans h2
          have z3 := fun k => setCell_id h3 HK.out.2.2 k
          have hz : ∀ k, ((((wr.drewN nq).setCell ⟨gg, 0, none⟩ (.string a1)).setCell ⟨gg, 1, none⟩ (.string a3)).setCell ⟨gg, 2, none⟩ (.int .i64 (stN a2 : Nat))).heap[k]? = w12.heap[k]? := fun k => (z3 k).trans ((z2 k).trans ((z1 k).trans (HHEAP.out k)))
          have hrn := ranges_heap HRG12.out (hz rb) (hz it)
          have hge : w.heap.size ≤ gg := by have := HLE9.out; have := HGB.out; omega
          have hAA := HA.out
          refine ⟨⟨_, cnt', [(a1, a2, a3)], hrn, fun s h => HSOME.out s (by rw [Bool.and_eq_true] at h; exact h.1), fun b => ?_, by rw [hc0, List.length_singleton]; omega, ?_, (((below_drewN HBX.out nq).setCell (p := ⟨gg, 0, none⟩) hge _).setCell (p := ⟨gg, 1, none⟩) hge _).setCell (p := ⟨gg, 2, none⟩) hge _, by rw [size_setCell, size_setCell, size_setCell]; exact HSZX.out⟩, by rw [hrn.left_eq, HRG0.out.left_eq]; omega⟩
          · rw [List.mem_singleton]
            constructor
            · rintro rfl
              refine ⟨hAA, ?_⟩
              show (left (kl a1) && !(kl a1).sameKey (kl a1)) = false
              rw [WideAt.sameKey_self (isKey a1)]; simp
            · rintro ⟨hb1, hb2⟩
              have hb2 : (left (kl b.1) && !(kl b.1).sameKey (kl a1)) = false := hb2
              rw [Bool.and_eq_false_iff] at hb2
              rcases hb2 with hb2 | hb2
              · have := (HMEM.out b).mpr ⟨hb1, hb2⟩
                cases this
              · have hsk : (kl b.1).sameKey (kl a1) = true := by simpa using hb2
                have := kl_inj ((WideAt.sameKey_iff (isKey a1)).mp hsk)
                rw [this, hAA] at hb1
                injection hb1 with hb1
                exact hb1.symm
          · unfold OutAt
            have := ownsRow_heap HOWN.out (fun q _ => hz q)
            simpa using this
end Go.Proofs.YteipeagdflcjjaaDoor.Am
/- Lines of one pattern and one attribute: their text, what they are read as, which of them counts. -/
namespace Go.Proofs.YteipeagdflcjjaaDoor.Am
open Go.RowKit
set_option linter.unusedSimpArgs false
set_option linter.unusedVariables false

/-! ## A text of lines -/
def lineN (n : ByteArray) (a : AttrT) : List Nat := nb n ++ 32 :: gaText a
def txt (n : Nat → ByteArray) (a : Nat → AttrT) : Nat → List Nat
  | 0 => []
  | k + 1 => txt n a k ++ (lineN (n k) (a k) ++ [10])
theorem txt_split (n : Nat → ByteArray) (a : Nat → AttrT) (i : Nat) : ∀ q, i < q → ∃ rest, txt n a q = txt n a i ++ (lineN (n i) (a i) ++ [10] ++ rest) := by
  intro q
  induction q with
  | zero => intro h; omega
  | succ q ih =>
    intro h
    by_cases e : i = q
    · subst e
      exact ⟨[], by rw [List.append_nil]; rfl⟩
    · obtain ⟨rest, hr⟩ := ih (by omega)
      refine ⟨rest ++ (lineN (n q) (a q) ++ [10]), ?_⟩
      show txt n a q ++ _ = _
      rw [hr]; simp
theorem bx_at {text : ByteArray} {A x B : List Nat} (h : nb text = A ++ (x ++ B)) (j : Nat) (hj : j < x.length) : bx text (A.length + j) = x.getD j 0 ∧ A.length + j < text.size := by
  constructor
  · unfold bx
    rw [h, List.getD_eq_getElem?_getD, List.getElem?_append_right (by omega), Nat.add_sub_cancel_left, List.getElem?_append_left hj, ← List.getD_eq_getElem?_getD]
  · rw [← nb_length, h, List.length_append, List.length_append]; omega
structure GoodLine (n : ByteArray) (a : AttrT) : Prop where
  part : GoodPart n
  dd : hasSub n ⟨#[42, 42]⟩ = false
  attr : GoodA a
theorem line_range {n : ByteArray} {a : AttrT} (h : GoodLine n a) : ∀ c ∈ lineN n a, 32 ≤ c ∧ c ≤ 122 := by
  intro c hc
  rcases List.mem_append.mp hc with hc | hc
  · have := part_range (n := 2) (.inl h.part) c hc; omega
  · rcases List.mem_cons.mp hc with rfl | hc
    · decide
    · have := gaText_range h.attr c hc; omega
theorem lines_at {text : ByteArray} {n : Nat → ByteArray} {a : Nat → AttrT} {q : Nat} (ht : nb text = txt n a q) (hg : ∀ i, i < q → GoodLine (n i) (a i)) :
    LinesAt (fun i => bx text i) text.size q (fun i => (txt n a i).length) (fun i => (lineN (n i) (a i)).length) := by
  refine ⟨rfl, by rw [← nb_length, ht], fun i hi => ?_⟩
  obtain ⟨rest, hr⟩ := txt_split n a i q hi
  have hx : nb text = txt n a i ++ ((lineN (n i) (a i) ++ [10]) ++ rest) := by rw [ht, hr]
  refine ⟨⟨?_, fun j hj => nb_lt (bx_mem hj), fun j hj => ?_, ?_⟩, ?_⟩
  · have := (bx_at hx (lineN (n i) (a i)).length (by simp)).2
    exact this
  · have h1 := (bx_at hx j (by rw [List.length_append]; simp; omega)).1
    have h2 : (lineN (n i) (a i) ++ [10]).getD j 0 ∈ lineN (n i) (a i) := by
      rw [List.getD_eq_getElem?_getD, List.getElem?_append_left hj, List.getElem?_eq_getElem hj]
      exact List.getElem_mem hj
    have := line_range (hg i hi) _ h2
    rw [h1]; omega
  · have h1 := (bx_at hx (lineN (n i) (a i)).length (by simp)).1
    rw [h1, List.getD_eq_getElem?_getD, List.getElem?_append_right (Nat.le_refl _), Nat.sub_self]; rfl
  · show (txt n a i ++ (lineN (n i) (a i) ++ [10])).length = _
    rw [List.length_append, List.length_append]; simp; omega
theorem line_text {text : ByteArray} {n : Nat → ByteArray} {a : Nat → AttrT} {q i : Nat} (ht : nb text = txt n a q) (hi : i < q) (hg : GoodLine (n i) (a i)) :
    nb (lineT (fun i => bx text i) (txt n a i).length (lineN (n i) (a i)).length) = lineN (n i) (a i) := by
  obtain ⟨rest, hr⟩ := txt_split n a i q hi
  have hx : nb text = txt n a i ++ (lineN (n i) (a i) ++ ([10] ++ rest)) := by rw [ht, hr]; simp
  unfold lineT
  have hl : (List.range (lineN (n i) (a i)).length).map (fun j => bx text ((txt n a i).length + j)) = lineN (n i) (a i) := by
    refine List.ext_getElem? fun j => ?_
    rw [List.getElem?_map]
    by_cases hj : j < (lineN (n i) (a i)).length
    · rw [List.getElem?_range hj, List.getElem?_eq_getElem hj]
      have := (bx_at hx j hj).1
      rw [List.getD_eq_getElem?_getD, List.getElem?_eq_getElem hj] at this
      show some (bx text ((txt n a i).length + j)) = some _
      rw [this]; rfl
    · rw [List.getElem?_eq_none (by simp; omega), List.getElem?_eq_none (by omega)]; rfl
  rw [hl]
  exact nb_bs _ fun c hc => by have := line_range hg c hc; omega

/-! ## A line read -/
theorem readLine2 {n line : ByteArray} {a : AttrT} (h : GoodLine n a) (hl : nb line = lineN n a) (allow : Bool) (dA : Option Addr) (dn dc : Nat) (w : World) :
    Calls Tryd.prog 40 #[.string line, .slice dA dn dc, .bool allow] w (OkLine n 1 (fun _ => readOf a) (.slice dA dn dc) w) := by
  have hsz : n.size ≤ 10 := (toks_spec h.part).2.2.2
  have hpre : LinePre 1 (fun _ => n) 1 (fun _ => a) := ⟨⟨Nat.le_refl _, by decide, fun i hi => .inl h.part⟩, Nat.le_refl _, by decide, fun i hi => h.attr, fun i j h1 h2 => by omega⟩
  have hgt : nb n = gt (fun _ => n) false 1 := by show nb n = [] ++ [] ++ nb n; simp
  have hsp : SpOk (⟨#[32]⟩ : ByteArray) := by unfold SpOk; decide
  obtain ⟨z1, z2, z3, z4, z5, z6⟩ := line_fields (line := line) (b2 := false) hpre hgt (by omega) hsp (by
    rw [hl]
    show lineN n a = gt (fun _ => n) false 1 ++ (nb (⟨#[32]⟩ : ByteArray) ++ gaText a)
    rw [← hgt]; rfl)
  have := parseLine_any line n [bs (gaText a)] (fun _ => readOf a) allow dA dn dc w z1 z2 z3 z4 z5 (Nat.le_refl 1) (show 1 ≤ 20 by decide) (by omega) z6
    (fun i hi => by
      have : i = 0 := by simpa using hi
      subst this
      exact gaText_read h.attr (nb_bs _ fun c hc => by have := gaText_range h.attr c hc; omega))
    (fun i hi => word_okN h.attr.1)
  exact this

/-! ## Which line counts -/
def lastHit (hit : Nat → Bool) : Nat → Option Nat
  | 0 => none
  | k + 1 => if hit k = true then some k else lastHit hit k
theorem lastHit_lt {hit : Nat → Bool} {k j : Nat} (h : lastHit hit k = some j) : j < k := by
  induction k with
  | zero => cases h
  | succ k ih =>
    unfold lastHit at h
    split at h
    · cases h; omega
    · have := ih h; omega
theorem mgo_last (hit : Nat → Bool) (att : Nat → Nat → AttrT) : ∀ k, mgoF 1 hit (fun _ => 1) att k RM.empty false = match lastHit hit k with
    | some j => (RM.empty.put (att j 0), true)
    | none => (RM.empty, false) := by
  have hfull : ∀ k a m, mgoF 1 hit (fun _ => 1) att k (RM.empty.put a) m = (RM.empty.put a, m) := by
    intro k a m
    cases k with
    | zero => rfl
    | succ k => unfold mgoF; rw [if_pos ⟨by decide, rfl⟩]
  intro k
  induction k with
  | zero => rfl
  | succ k ih =>
    unfold mgoF lastHit
    rw [if_neg (by intro h; exact absurd h.2 (by decide))]
    by_cases hh : hit k = true
    · rw [if_pos hh, if_pos hh]
      exact hfull k (att k 0) true
    · rw [if_neg hh, if_neg hh]; exact ih
theorem put_told {a : AttrT} {l : List AttrT} (h : Told (RM.empty.put a) l) : l = [a] := by
  obtain ⟨h1, h2⟩ := h
  have hl : l.length = 1 := h1
  match l, hl with
  | [b], _ =>
    have := (h2 b).mp (by simp)
    unfold RM.put RM.empty at this
    dsimp only at this
    split at this
    · injection this with this; rw [this]
    · cases this
theorem empty_told {l : List AttrT} (h : Told RM.empty l) : l = [] := List.length_eq_zero_iff.mp h.1
theorem put_good (a : AttrT) : ∀ s b, (RM.empty.put a).M s = some b → nb b.1 = nb s := by
  intro s b h
  unfold RM.put RM.empty at h
  dsimp only at h
  split at h
  · injection h with h; subst h; rename_i e; exact e.symm
  · cases h

/-! ## Parts without two stars side by side -/
def NoDD (s : ByteArray) : Prop := ∀ i, i + 1 < s.size → ¬ (bx s i = 42 ∧ bx s (i + 1) = 42)
theorem noDD_sub {s : ByteArray} (h : NoDD s) : hasSub s ⟨#[42, 42]⟩ = false := by
  rw [Bool.eq_false_iff]
  intro e
  obtain ⟨i, h1, h2⟩ := (hasSub_iff s _).mp e
  have h1 : i + 2 ≤ s.size := h1
  unfold subAt at h2
  have h3 : nb (s.extract i (i + 2)) = [42, 42] := (beq_iff_eq.mp h2).trans rfl
  rw [nb_extract] at h3
  have hb : ∀ j, j < 2 → bx s (i + j) = 42 := fun j hj => by
    have h4 : (((nb s).drop i).take (i + 2 - i)).getD j 0 = ([42, 42] : List Nat).getD j 0 := by rw [h3]
    rw [List.getD_eq_getElem?_getD, List.getElem?_take, List.getElem?_drop] at h4
    rw [if_pos (by omega), ← List.getD_eq_getElem?_getD] at h4
    have h5 : bx s (i + j) = ([42, 42] : List Nat).getD j 0 := h4
    rw [h5]
    match j, hj with
    | 0, _ => rfl
    | 1, _ => rfl
  exact h i (by omega) ⟨hb 0 (by decide), hb 1 (by decide)⟩
end Go.Proofs.YteipeagdflcjjaaDoor.Am
