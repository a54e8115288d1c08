/- impl.AttrMatch: all attributes that are told, in order of their names. -/
import Derived.Test.YteipeagdflcjjaaDoorQAmT
import Derived.Test.YteipeagdflcjjaaDoorQAmL
import Derived.Test.YteipeagdflcjjaaDoorQAmO
namespace Go.Proofs.YteipeagdflcjjaaDoor.Am
open Go.RowKit
open Go.Maps (Keyed string_keyed)
set_option linter.unusedSimpArgs false
set_option linter.unusedVariables false

def AmPostS (r : RM) (m : Bool) (w : World) (e : Ending) (w' : World) : Prop :=
  ∃ v l, e = .returned (.tuple #[v, .bool m, .string ⟨#[]⟩]) ∧ (∀ a, a ∈ l ↔ r.M a.1 = some a) ∧ SortedBy (fun a : AttrT => a.1) l ∧ OutAt w' w.heap.size v l ∧ Below w.heap.size w w'

set_option maxRecDepth 100000 in
set_option maxHeartbeats 8000000 in
theorem attrMatchK_any (text : ByteArray) (S : Spec) (at_ m : Nat → Nat) (dA pA nA : Option Addr) (dn dc pn pc nn nc : Nat) (d f nf : Nat → ByteArray) (allow : Bool) (ea : Addr) (msg : ByteArray) (w : World)
    (ht : 1 ≤ text.size ∧ text.size ≤ 2000) (hS : S.Ok) (hl : LinesAt (fun i => bx text i) text.size S.q at_ m)
    (hp : ∀ i, i < S.q → ∀ A c W, Calls Tryd.prog 40 #[.string (lineT (fun i => bx text i) (at_ i) (m i)), .slice A dn c, .bool allow] W (LinePost (S.says (.slice A dn c) i) W))
    (hE : ErrAt w 6 ea msg) (hd : Strs w dA dn d) (hdn : dn ≤ 100) (hpt : Strs w pA pn f) (hpn : 1 ≤ pn ∧ pn ≤ 100) (hnm : ∀ i, i < pn → Nm (f i)) (hn : Strs w nA nn nf) (hnn : nn ≤ 1000)
    (hgood : ∀ s a, (mgoF nn (S.hit dn d pn f) S.cnt S.att S.q RM.empty false).1.M s = some a → nb a.1 = nb s) (hone : (mgoF nn (S.hit dn d pn f) S.cnt S.att S.q RM.empty false).1.K ≤ 100) :
    Calls Tryd.prog 29 #[.string text, .slice dA dn dc, .bool allow, .slice pA pn pc, .slice nA nn nc] w (AmPostS (mgoF nn (S.hit dn d pn f) S.cnt S.att S.q RM.empty false).1 (mgoF nn (S.hit dn d pn f) S.cnt S.att S.q RM.empty false).2 w) := by
  obtain ⟨ht1, ht2⟩ := ht
  have HS := Lib.hid hS; have HL := Lib.hid hl; have HP := Lib.hid hp; have HE := Lib.hid hE; have HD := Lib.hid hd; have HPT := Lib.hid hpt; have HNM := Lib.hid hnm; have HN := Lib.hid hn; have HONE := Lib.hid hone
  obtain ⟨hpn1, hpn2⟩ := hpn
  clear hS hl hp hE hd hpt hnm hn hone
  obtain ⟨v1, w1, hcv, c1, rfl, hc1, hc1m, hcells, hb1, hs1⟩ := run_bytes w text (by omega)
  have HCE := Lib.hid hcells; have HB1 := Lib.hid hb1; have HS1 := Lib.hid hs1
  clear hcells hb1 hs1
  go_enter Tryd.func29, Tryd.ntmps29
  go_wp2_with fail
  with_reducible refine (newReader_any w.heap.size text.size c1 _).mono ?_
  rintro e w2 ⟨rfl, hr2, hb2, hs2⟩
  have HR2 := Lib.hid hr2; have HB2 := Lib.hid hb2; have HS2 := Lib.hid hs2
  have HSW : Hid (w1.heap.size = w.heap.size + 1 ∧ w2.heap.size = w.heap.size + 2) := Lib.hid ⟨HS1.out, by rw [hs2, HS1.out]⟩
  have HB02 : Hid (Below w.heap.size w w2) := Lib.hid (HB1.out.trans (hb2.mono (by rw [HS1.out]; omega)))
  have HD2 : Hid (Strs w2 dA dn d) := Lib.hid (HD.out.below HB02.out)
  clear hr2 hb2 hs2 hcv
  go_wp2_with (at_builtin; refine wpList_copy _ rfl (.tmp 26) rfl dA dn dc d rfl (by omega) HD2.out ?_; intro A3 c3 w3 hs3 hc3 hm3 hb3 hg3; have HS3 := Lib.hid hs3; have HB3 := Lib.hid hb3; have HG3 := Lib.hid hg3; have HC3 := Lib.hid (And.intro hc3 hm3); clear hs3 hc3 hm3 hb3 hg3)
  have hmx : c1 ≤ 9223372036854775807 := by unfold maxLen at hc1m; omega
  have HSZ3 : Hid (w1.heap.size < w3.heap.size ∧ w.heap.size < w3.heap.size) := Lib.hid (by have := HSW.out; have := HB3.out.size; omega)
  have HB03 : Hid (Below w.heap.size w w3) := Lib.hid (HB02.out.trans (HB3.out.mono (by have := HSW.out; omega)))
  have HB13 : Hid (Below w1.heap.size w1 w3) := Lib.hid (HB2.out.trans (HB3.out.mono (by have := HSW.out; omega)))
  have HR3 : Hid (RdrAt w3 w1.heap.size w.heap.size text.size c1 0 (-1)) := Lib.hid ((HB3.out.block _ (by have := HSW.out; omega)).trans HR2.out)
  have HC3b : Hid (∀ i, i < text.size → w3.cell? ⟨w.heap.size, i, none⟩ = some (.int .u8 (bx text i : Nat))) := Lib.hid fun i hi => (HB13.out.cell (p := ⟨w.heap.size, i, none⟩) (show w.heap.size < w1.heap.size by have := HSW.out; omega)).trans (HCE.out i hi)
  have HE3 : Hid (ErrAt w3 6 ea msg) := Lib.hid (errAt_heap HE.out (fun k hk => HB03.out.block k (by rcases hk with rfl | rfl; exact HE.out.lt.1; exact HE.out.lt.2)) HB03.out.size)
  have HEB : Hid (6 < w1.heap.size ∧ ea.block < w1.heap.size) := Lib.hid (by have := HE.out.lt; have := HSW.out; omega)
  have HNE : Hid (w.heap.size ≠ w1.heap.size) := Lib.hid (by have := HSW.out; omega)
  clear HR2 HCE HB1 HS1 HB2 HS2
  with_reducible refine (readAttributes_any w1.heap.size w1.heap.size w.heap.size text.size c1 S.q (fun i => bx text i) at_ m (fun i => S.says (.slice A3 dn c3) i) A3 dn c3 allow ea msg w3 ⟨ht1, ht2, hc1, hmx⟩ HS.out.q (Nat.le_refl _) HNE.out HSZ3.out HR3.out HC3b.out HL.out HE3.out HEB.out (fun i hi W => HP.out i hi A3 c3 W)).mono ?_
  rintro e w4 ⟨sv, L, rfl, hlen, hsay, ⟨B2, hB2, hst⟩, hb4, hkp⟩
  have HB04 : Hid (Below w.heap.size w w4) := Lib.hid (HB03.out.trans (hb4.mono (by have := HSW.out; omega)))
  have HD4 : Hid (Strs w4 A3 dn d) := Lib.hid fun i hi => by
    obtain ⟨b, off, e1, e2, e3⟩ := HS3.out i hi
    have := HG3.out _ e1
    exact ⟨b, off, e1, Nat.lt_of_lt_of_le e2 hb4.size, (World.cell?_of_block (a := ⟨b, off + i, none⟩) (hkp b e2 (by have := HSW.out; dsimp only at *; omega))).trans e3⟩
  have HPT4 : Hid (Strs w4 pA pn f) := Lib.hid (HPT.out.below HB04.out)
  have HN4 : Hid (Strs w4 nA nn nf) := Lib.hid (HN.out.below HB04.out)
  have HLEN := Lib.hid hlen; have HSAY := Lib.hid hsay
  have HROWS : Hid (RowsAt w4 sv L) := Lib.hid hst.rows
  have HEL : Hid (∀ a ∈ L, ∃ bad, ElemAt w4 bad a) := Lib.hid fun a ha => ⟨_, hst.2 a ha⟩
  have HOB : Hid (∀ b, sv.ownBlock = some b → b < w4.heap.size) := Lib.hid fun b e => (hst.1.lt b e).2
  have HPNN : Hid (∀ a ∈ L, a.pat ≠ none) := Lib.hid fun a ha => by
    obtain ⟨i, hi⟩ := List.getElem?_of_mem ha
    obtain ⟨_, _, _, p, hp, _⟩ := hsay i a hi
    rw [hp]; exact fun e => by cases e
  have hL : L.length ≤ 1000 := by rw [hlen]; exact HS.out.q
  clear hlen hsay hst hB2 hb4 hkp HD HPT HN HB02 HB03 HB13 HR3 HC3b HE3 HEB HNE HSZ3 HS3 HB3 HG3 HD2
  have hna : ∀ (b : Nat) (w : World), (nilAhead 321 136 (.pointer (some ⟨b, 0, none⟩)) "Match").run Tryd.prog w = .ok (some false) w := fun _ _ => by kernel_rfl
  have hme : ∀ (b : Nat) (w : World), (method 321 136 (.pointer (some ⟨b, 0, none⟩)) "Match").run Tryd.prog w = .ok (126, .pointer (some ⟨b, 0, none⟩)) w := fun _ _ => by kernel_rfl
  obtain ⟨R, hR⟩ : ∃ R, mgoF nn (S.hit dn d pn f) S.cnt S.att S.q RM.empty false = R := ⟨_, rfl⟩
  have HMG : Hid (mgo nn (S.hit dn d pn f) L L.length RM.empty false = R) := Lib.hid (by rw [mgo_F HSAY.out L.length (Nat.le_refl _), HLEN.out, hR])
  have HRR := Lib.hid hR
  have HGOOD : Hid (∀ s a, R.1.M s = some a → nb a.1 = nb s) := Lib.hid (by rw [← hR]; exact hgood)
  have HONE2 : Hid (R.1.K ≤ 100) := Lib.hid (by rw [← hR]; exact HONE.out)
  clear hR HONE hgood
  go_upto_region 4 with (fail)
  go_cut [15, 16] (fun mv bv wx => ∃ N rb : Nat, mv = .map (some rb) ∧ bv = .bool R.2 ∧ ResAt wx rb N R.1 ∧ Below w.heap.size w wx)
  case first =>
   go_region_law (first | (go_simp; go_at_call 44; refine (newMatcher_any sv L _ hL HPNN.out (by exact HROWS.out) (by exact HOB.out)).mono ?_; rintro e w5 ⟨macb, rfl, hm5, hmap5, hb5⟩; have HM5 := Lib.hid hm5; have HMA5 := Lib.hid hmap5; have HB5 : Hid (Below w4.heap.size w4 w5) := Lib.hid (by first | exact hb5 | exact (Below.refl _ _).drew.trans hb5); clear hm5 hmap5 hb5) | (refine step_copy _ rfl (.tmp 39) rfl pA pn pc f rfl (by omega) (HPT4.out.below HB5.out) ?_; intro A6 c6 w6 hs6 hc6 hm6 hb6 hg6; have HS6 := Lib.hid hs6; have HC6 := Lib.hid (And.intro hc6 hm6); have HB6 := Lib.hid hb6; clear hs6 hc6 hm6 hb6 hg6) | (refine step_copy _ rfl (.tmp 41) rfl nA nn nc nf rfl hnn (HN4.out.below (HB5.out.trans (HB6.out.mono HB5.out.size))) ?_; intro A7 c7 w7 hs7 hc7 hm7 hb7 hg7; have HB7 := Lib.hid hb7; clear hs7 hc7 hm7 hb7 hg7; have HB57 : Hid (Below w5.heap.size w5 w7) := Lib.hid (HB6.out.trans (HB7.out.mono HB6.out.size)); have HB47 : Hid (Below w4.heap.size w4 w7) := Lib.hid (HB5.out.trans (HB57.out.mono HB5.out.size)); have HM7 : Hid (MatAt w7 w4.heap.size macb sv) := Lib.hid ((HB57.out.block _ (Array.getElem?_eq_some_iff.1 HM5.out).1).trans HM5.out); have HMA7 : Hid (MapIs w7 macb 0 (fun _ => none) 0) := Lib.hid (HMA5.out.kept (HB57.out.block _ HMA5.out.lt)); have HEL7 : Hid (∀ a ∈ L, ∃ bad, ElemAt w7 bad a) := Lib.hid (fun a ha => (HEL.out a ha).imp fun bad he => he.below HB47.out); have HS7 : Hid (Strs w7 A6 pn f) := Lib.hid (HS6.out.below HB7.out); have HD7 : Hid (Strs w7 A3 dn d) := Lib.hid (HD4.out.below HB47.out)) | (go_simp; go_at_call 126; refine (mMatch_any w4.heap.size macb sv L A6 A7 pn c6 nn c7 (S.hit dn d pn f) w7 hL HM7.out HMA7.out (HROWS.out.below HB47.out) (atts_ok HS.out HLEN.out HSAY.out HEL7.out) hnn (hits_ok HS.out HLEN.out HSAY.out HEL7.out HD7.out hdn HS7.out ⟨hpn1, hpn2⟩ HC6.out HNM.out)).mono ?_; rintro e w8 ⟨N, rfl, hres, hb8⟩; have HRES := Lib.hid hres; have HB8 := Lib.hid hb8; clear hres hb8))
   all_goals
    go_wp2
    go_meet
    case rel => exact ⟨N, w7.heap.size, rfl, by rw [HMG.out], by rw [← HMG.out]; exact HRES.out, HB04.out.trans ((HB47.out.mono HB04.out.size).trans (HB8.out.mono (Nat.le_trans HB04.out.size HB47.out.size)))⟩
  case rest =>
    clear HPT4 HN4 HROWS HEL HOB HPNN HD4 HB04 HSAY HLEN HMG
    obtain ⟨N, rb, rfl, rfl, hres, hbw⟩ := hcut
    have HRES := Lib.hid hres; have HBW := Lib.hid hbw
    clear hres hbw
    obtain ⟨D, ho, hd⟩ := HRES.out
    obtain ⟨i0, hi, hz0, hz1, hz2⟩ := info_parts outInfo
    go_wp2_with (at_range; refine wpList_range_own _ rfl _ _ rfl 9 92 strKeyed attMap RV rb N D rfl ho ?_; intro w9 hrg hg9 hs9)
    have HRG := Lib.hid hrg; have HMD := Lib.hid hd
    have HBW9 : Hid (Below w.heap.size w w9) := Lib.hid (HBW.out.grown hg9 HBW.out.size (fun q e => by cases e))
    have HITW : Hid (w.heap.size ≤ wc.heap.size) := Lib.hid HBW.out.size
    generalize wc.heap.size = it at *
    have HIT : Hid (it < w9.heap.size ∧ rb < w9.heap.size) := Lib.hid ⟨hrg.lt, hrg.owns.lt⟩
    have HLE9 : Hid (w.heap.size ≤ w9.heap.size) := Lib.hid HBW9.out.size
    clear ho hd hrg hg9 hs9 HRES HBW
    go_frame
    have hinK : ∀ key klit, keyOf Tryd.prog 9 key = some klit → ∃ x, key = Value.string x := fun key klit h => by
      obtain ⟨s, e, _⟩ := WideMaps.string_of_keyOf strKind h
      exact ⟨s, e⟩
    have hinV : ∀ v y, RV v = some y → ∃ c : Value, v = (fun u => u) c := fun v _ _ => ⟨v, rfl⟩
    go_loopw [10] (fun lv wr => ∃ (left : Lit → Bool) (cnt : Nat) (l : List AttrT), wr.ranges Tryd.prog 9 RV rb it N D left cnt ∧ (∀ s, left (kl s) = true → (R.1.M s).isSome = true) ∧ (∀ a, a ∈ l ↔ (R.1.M a.1 = some a ∧ left (kl a.1) = false)) ∧ l.length + cnt ≤ R.1.K ∧ SortedBy (fun a : AttrT => a.1) l ∧ OutAt wr w9.heap.size lv l ∧ Below w.heap.size w wr ∧ w9.heap.size ≤ wr.heap.size) (fun _ wr => wr.rangeLeft rb it)
    case atStart =>
      refine ⟨_, _, [], HRG.out, fun s h => ?_, fun a => ⟨fun h => (by cases h), fun ⟨h1, h2⟩ => ?_⟩, ?_, List.Pairwise.nil, World.ownsRow_nil _ _ _ _, HBW9.out, Nat.le_refl _⟩
      · rw [HMD.out.has] at h
        unfold RM.val at h
        cases hm : R.1.M s with
        | none => rw [hm] at h; cases h
        | some a => rfl
      · rw [HMD.out.has] at h2
        unfold RM.val at h2
        rw [h1] at h2; cases h2
      · rw [HMD.out.size]; simp
    case round =>
      clear HRG HBW9
      obtain ⟨left, cnt, l, hrg, hsome, hmem, hcnt, hsrt, hout, hbel, hsz9⟩ := hrel
      have HSRT := Lib.hid hsrt; clear hsrt
      have HSOME := Lib.hid hsome; have HMEM := Lib.hid hmem; have HOUT := Lib.hid hout; have HB := Lib.hid hbel; have HSZ9 := Lib.hid hsz9; have HRG0 := Lib.hid hrg
      clear hsome hmem hout hbel hsz9
      go_wp2_with (at_next; refine wpList_next_ranges _ rfl _ rfl 9 strKeyed RV Value.string (fun v : Value => v) hinK hinV rb it N D left cnt rfl hrg ?_ ?_)
      · intro hc0 hl0
        have HTOLD : Hid (∀ a, a ∈ l ↔ R.1.M a.1 = some a) := Lib.hid (fun a => (HMEM.out a).trans ⟨fun h => h.1, fun h => ⟨h, hl0 _⟩⟩)
        clear hc0 hl0 hrg
        go_wp2
        go_ret3
        exact ⟨_, l, by rw [HRR.out]; rfl, by rw [HRR.out]; exact HTOLD.out, HSRT.out, ownsRow_mono HOUT.out HLE9.out, HB.out⟩
      · intro x c klit y1 y2 w10 cnt' hkey hleft hRV hat hrg' hlt hg hs hen
        obtain ⟨s0, hs0, hkl, hsz⟩ := WideMaps.string_of_keyOf strKind hkey
        injection hs0 with hs0
        subst hs0
        have hkl : klit = kl x := hkl
        subst hkl
        obtain ⟨a, ha⟩ := Option.isSome_iff_exists.mp (HSOME.out x hleft)
        have hax : a.1 = x := nb_inj (HGOOD.out x a ha)
        have hc : c = attrV a := by
          injection hRV with hRV
          injection hRV with hRV _
          have h1 := hat (.lit (.bool true))
          rw [HMD.out.at_ x (attrV a) (by unfold RM.val; rw [ha]; rfl), ← hRV] at h1
          injection h1 with h1
          exact h1.symm
        subst hc
        obtain ⟨a1, a2, a3⟩ := a
        have hax : a1 = x := hax
        subst hax
        have hk100 : l.length ≤ 100 := by have := HONE2.out; omega
        have HCN : Hid (l.length + 1 + cnt' ≤ R.1.K) := Lib.hid (by omega)
        have HNEW : Hid (∀ b ∈ l, b.1 ≠ a1) := Lib.hid fun b hb e => by
          have h1 := ((HMEM.out b).mp hb).2
          rw [e] at h1
          rw [hleft] at h1; cases h1
        have HLEFT := Lib.hid hleft
        clear hcnt hleft
        have HRG1 := Lib.hid hrg'
        have HB10 : Hid (Below w.heap.size w w10) := Lib.hid (HB.out.grown hg HB.out.size (fun q e => by injection e with e; have := HITW.out; omega))
        have HA := Lib.hid ha
        have hown10 : ∀ q, u10.ownBlock = some q → w9.heap.size ≤ q := fun q e => (HOUT.out.lt q e).1
        obtain ⟨k, hk⟩ : ∃ k, l.length = k := ⟨_, rfl⟩
        have HKL := Lib.hid hk
        rw [hk] at hk100
        have HO10 : Hid (OutAt w10 w9.heap.size u10 l) := Lib.hid (ownsRow_heap HOUT.out (fun q e => hg.block q (HOUT.out.lt q e).2 (fun e2 => by injection e2 with e2; have := hown10 q e; have := HIT.out; omega)))
        have HSZ10 : Hid (w9.heap.size ≤ w10.heap.size) := Lib.hid (by rw [hs]; exact HSZ9.out)
        have HOB10 := Lib.hid hown10
        have hform : ∃ A0 c0, u10 = .slice A0 k c0 := by
          rcases HO10.out.2 with ⟨h, h0⟩ | ⟨g, cap, cur, h, _⟩
          · exact ⟨none, 0, by rw [h, ← hk, h0]⟩
          · exact ⟨_, cap, by rw [h, hk]⟩
        obtain ⟨A0, c00, hu10⟩ := hform
        have HLT0 := Lib.hid hlt
        clear hrg' hg hs ha hown10 HOUT hkey hRV hat hax hrg hlt hk
        rw [show attrV (a1, a2, a3) = .iface 127 (.agg #[.string a1, .int .u8 (a2 : Nat), .string a3]) from rfl] at hen ⊢
        go_wp2_with fail
        with_reducible refine (attr_any a1 a2 a3 _).mono ?_
        rintro e w11 ⟨rfl, hb11⟩
        have HRG11 : Hid (w11.ranges Tryd.prog 9 RV rb it N D (fun z => left z && !z.sameKey (kl a1)) cnt') := Lib.hid (ranges_heap HRG1.out (hb11.block _ HRG1.out.owns.lt) (hb11.block _ HRG1.out.lt))
        have HO11 : Hid (w11.ownsRow w9.heap.size 48 3 u10 k (l.flatMap out3)) := Lib.hid (by rw [← HKL.out]; exact ownsRow_heap HO10.out (fun q e => hb11.block q (HO10.out.lt q e).2))
        have HB11 : Hid (Below w.heap.size w w11) := Lib.hid (HB10.out.trans (hb11.mono HB10.out.size))
        have HSZ11 : Hid (w9.heap.size ≤ w11.heap.size) := Lib.hid (Nat.le_trans HSZ10.out hb11.size)
        clear hb11 hen HRG1 HO10 HB10 HSZ10
        subst hu10
        go_upto_region 10 with (fail)
        go_wp2_with (at_builtin; refine wpList_append_lies _ rfl (.tmp 59) (.tmp 61) 44 rfl w9.heap.size 48 i0 (.agg #[.string ⟨#[]⟩, .string ⟨#[]⟩, .int .i64 0]) 3 40 outsKind hi hz0 hz1 hz2 rfl (by decide) _ k (l.flatMap out3) rfl (World.ownsRow.alloc (World.ownsRow.alloc HO11.out _) _) ⟨w11.heap.size + 1, 0, none⟩ 1 1 (out3 (a1, a2, a3)) rfl rfl ?c1 (one_out _) (by decide) ?c3 ?c4 ?c5 _ rfl ?_)
        case c1 =>
          intro j u hj
          have h := news_out (w11.alloc (.cells #[.string a1, .string a3, .int .i64 (stN a2 : Nat)] 48)) (a1, a2, a3) j u hj
          rw [heap_new_size] at h
          exact h
        case c3 => unfold maxLen; omega
        case c4 => omega
        case c5 => have := HSZ11.out; first | omega | (rw [heap_new_size, heap_new_size]; omega)
        intro gg cap2 w12 hown hgrow hat hlt12
        have hgB : w9.heap.size ≤ gg := by
          rcases hown.2 with ⟨h, _⟩ | ⟨g, cap, cur, h, hb, _⟩
          · cases h
          · cases h; exact hb
        obtain ⟨cur, hcur, hcap, hcs, hct⟩ : ∃ cur, w12.heap[gg]? = some (.cells cur 48 (0, 0)) ∧ (k + 1 ≤ cap2 ∧ cap2 ≤ maxLen) ∧ cur.size = cap2 * 3 ∧ cur.toList.take ((k + 1) * 3) = l.flatMap out3 ++ out3 (a1, a2, a3) := by
          rcases hown.2 with ⟨h, _⟩ | ⟨g, cap, cur, h, _, hg, p1, p2, p3, p4⟩
          · cases h
          · cases h; exact ⟨cur, hg, ⟨p1, p2⟩, p3, p4⟩
        have HSH : Hid (Shift cur l k) := Lib.hid (by
          have := shift_start (cur := cur) (l := l) (x := (a1, a2, a3)) (by rw [HKL.out, hct, List.flatMap_append]; simp)
          rwa [HKL.out] at this)
        have HCAP := Lib.hid hcap; have HCS := Lib.hid hcs
        clear hcap hcs hct
        have hold : ∀ q, q < w11.heap.size → (∀ b, A0 = some b → b.block ≠ q) → w12.heap[q]? = w11.heap[q]? := fun q h1 h2 =>
          (hgrow.block q (by rw [heap_new_size, heap_new_size]; omega) (fun e => by
            cases A0 with
            | none => cases e
            | some b => injection e with e; exact h2 b rfl e.symm)).trans ((Below.heap_alloc _ _ _ (by rw [heap_new_size]; omega)).trans (Below.heap_alloc _ _ _ h1))
        have hobk : ∀ b, A0 = some b → w9.heap.size ≤ b.block := fun b e => HOB10.out b.block (by rw [e]; rfl)
        have hrow12 : w12.heap[w11.heap.size]? = some (.cells #[.string a1, .string a3, .int .i64 (stN a2 : Nat)] 48 (0, 0)) :=
          (hgrow.block _ (by rw [heap_new_size, heap_new_size]; omega) (fun e => by
            have := (HO11.out.lt w11.heap.size e.symm).2
            omega)).trans ((Below.heap_alloc _ _ _ (by rw [heap_new_size]; omega)).trans (heap_new w11 _))
        have g0 : w12.cell? ⟨w11.heap.size, 0, none⟩ = some (.string a1) := by rw [Lib.cell_of_heap hrow12]; rfl
        have g1 : w12.cell? ⟨w11.heap.size, 1, none⟩ = some (.string a3) := by rw [Lib.cell_of_heap hrow12]; rfl
        have g2 : w12.cell? ⟨w11.heap.size, 2, none⟩ = some (.int .i64 (stN a2 : Nat)) := by rw [Lib.cell_of_heap hrow12]; rfl
        have HRG12 : Hid (w12.ranges Tryd.prog 9 RV rb it N D (fun z => left z && !z.sameKey (kl a1)) cnt') := Lib.hid (ranges_heap HRG11.out (hold rb HRG11.out.owns.lt (fun b e => by have := hobk b e; have := HIT.out; omega)) (hold it HRG11.out.lt (fun b e => by have := hobk b e; have := HIT.out; omega)))
        have HB12 : Hid (Below w.heap.size w w12) := Lib.hid (((HB11.out.alloc HB11.out.size _).alloc (by rw [heap_new_size]; have := HB11.out.size; omega) _).grown hgrow (by rw [heap_new_size, heap_new_size]; have := HB11.out.size; omega) (fun q e => by have := HOB10.out q e; have := HLE9.out; omega))
        have HCUR := Lib.hid hcur; have HGLT := Lib.hid hlt12; have HGX : Hid (gg ≠ w11.heap.size) := Lib.hid (by intro e; refine hat.elim (fun h => ?_) (fun h => ?_) <;> first | (have := (HO11.out.lt gg h).2; omega) | omega | (rw [heap_new_size] at h; omega) | (rw [heap_new_size, heap_new_size] at h; omega)); have HGIT : Hid (gg ≠ it ∧ gg ≠ rb) := Lib.hid (by have := HIT.out; omega); have HGB := Lib.hid hgB
        have HSZ12 : Hid (w9.heap.size ≤ w12.heap.size) := Lib.hid (by have h1 := hgrow.size; rw [heap_new_size, heap_new_size] at h1; have := HSZ11.out; omega)
        clear hown hgrow hat hlt12 hcur hold hobk hrow12 hgB
        generalize w11.heap.size = xb at *
        have HCE : Hid (w12.cell? ⟨xb, 0, none⟩ = some (.string a1) ∧ w12.cell? ⟨xb, 1, none⟩ = some (.string a3) ∧ w12.cell? ⟨xb, 2, none⟩ = some (.int .i64 (stN a2 : Nat))) := Lib.hid ⟨g0, g1, g2⟩
        clear g0 g1 g2
        go_wp2
        go_loopw [20] (fun iv wx => ∃ (i : Nat) (cu : Array Value), i ≤ k ∧ iv = .int .i64 (i : Nat) ∧ wx.heap[gg]? = some (.cells cu 48 (0, 0)) ∧ cu.size = cap2 * 3 ∧ Shift cu l i ∧ (∀ r, i ≤ r → r < l.length → ltS a1 (l.getD r zA).1 = true) ∧ (∀ q : Nat, q ≠ gg → wx.heap[q]? = w12.heap[q]?) ∧ Below w.heap.size w wx ∧ w9.heap.size ≤ wx.heap.size) (fun iv _ => (intOf iv).toNat)
        case atStart => exact ⟨k, cur, Nat.le_refl _, rfl, HCUR.out, HCS.out, HSH.out, fun r h1 h2 => absurd h2 (by rw [HKL.out]; omega), fun _ _ => rfl, HB12.out, HSZ12.out⟩
        case round =>
          obtain ⟨i, cu, hik, rfl, hcu, hcus, hsh, hgt, hheap, hbx, hszx⟩ := hrel
          have HSZX := Lib.hid hszx; have HCU := Lib.hid hcu; have HCUS := Lib.hid hcus; have HSHI := Lib.hid hsh; have HGT := Lib.hid hgt
          have HHEAP := Lib.hid hheap; have HBX := Lib.hid hbx
          have hcell : ∀ j, wr.cell? ⟨xb, j, none⟩ = w12.cell? ⟨xb, j, none⟩ := fun j => World.cell?_of_block (hheap xb (fun e => HGX.out e.symm))
          have g0 := (hcell 0).trans HCE.out.1
          have g1 := (hcell 1).trans HCE.out.2.1
          have g2 := (hcell 2).trans HCE.out.2.2
          have f0 : wr.frozen? ⟨gg, i * 3, none⟩ = false := Lib.frozen_of_heap hcu _
          have f1 : wr.frozen? ⟨gg, i * 3 + 1, none⟩ = false := Lib.frozen_of_heap hcu _
          have f2 : wr.frozen? ⟨gg, i * 3 + 2, none⟩ = false := Lib.frozen_of_heap hcu _
          clear hszx hcu hcus hsh hgt hheap hbx hcell
          have hge : w.heap.size ≤ gg := by have := HLE9.out; have := HGB.out; omega
          have HDONE : Hid ((i = 0 ∨ ltS (l.getD (i - 1) zA).1 a1 = true) → ∀ nq (wz : World), (∀ q, q ≠ gg → wz.heap[q]? = wr.heap[q]?) → wz.heap[gg]? = some (.cells (put3 cu i (a1, a2, a3)) 48 (0, 0)) → wz.heap.size = wr.heap.size → Below w.heap.size w wz → nq = .slice (some ⟨gg, 0, none⟩) (k + 1) cap2 →
              ∃ (left' : Lit → Bool) (cnt'' : Nat) (l' : List AttrT), wz.ranges Tryd.prog 9 RV rb it N D left' cnt'' ∧ (∀ s, left' (kl s) = true → (R.1.M s).isSome = true) ∧ (∀ a, a ∈ l' ↔ (R.1.M a.1 = some a ∧ left' (kl a.1) = false)) ∧ l'.length + cnt'' ≤ R.1.K ∧ SortedBy (fun a : AttrT => a.1) l' ∧ OutAt wz w9.heap.size nq l' ∧ Below w.heap.size w wz ∧ w9.heap.size ≤ wz.heap.size ∧ cnt'' = cnt') := Lib.hid fun hstop nq wz hz hzg hzs hzb hnq => by
            have hil : i ≤ l.length := by rw [HKL.out]; exact hik
            have hsz : (l.length + 1) * 3 ≤ cu.size := by rw [HKL.out, HCUS.out]; have := HCAP.out.1; omega
            refine ⟨_, cnt', l.take i ++ (a1, a2, a3) :: l.drop i, ranges_heap HRG12.out ((hz rb (fun e => HGIT.out.2 e.symm)).trans (HHEAP.out rb (fun e => HGIT.out.2 e.symm))) ((hz it (fun e => HGIT.out.1 e.symm)).trans (HHEAP.out it (fun e => HGIT.out.1 e.symm))), fun s h => HSOME.out s (by rw [Bool.and_eq_true] at h; exact h.1), fun b => ?_, ?_, sorted_ins HSRT.out hil (drop_gt zA HGT.out) (take_lt zA HSRT.out hil hstop), ⟨?_, .inr ⟨gg, cap2, _, ?_, HGB.out, hzg, ?_, HCAP.out.2, ?_, ?_⟩⟩, hzb, by rw [hzs]; exact HSZX.out, rfl⟩
            · rw [mem_ins]
              constructor
              · rintro (rfl | hb)
                · refine ⟨HA.out, ?_⟩
                  show (left (kl a1) && !(kl a1).sameKey (kl a1)) = false
                  rw [WideAt.sameKey_self (isKey a1)]; simp
                · obtain ⟨p1, p2⟩ := (HMEM.out b).mp hb
                  exact ⟨p1, by rw [p2]; rfl⟩
              · rintro ⟨hb1, hb2⟩
                have hb2 : (left (kl b.1) && !(kl b.1).sameKey (kl a1)) = false := hb2
                rw [Bool.and_eq_false_iff] at hb2
                rcases hb2 with hb2 | hb2
                · exact .inr ((HMEM.out b).mpr ⟨hb1, hb2⟩)
                · left
                  have hsk : (kl b.1).sameKey (kl a1) = true := by simpa using hb2
                  have := kl_inj ((WideAt.sameKey_iff (isKey a1)).mp hsk)
                  have hAA := HA.out
                  rw [this, hAA] at hb1
                  injection hb1 with hb1
                  exact hb1.symm
            · rw [len_ins hil]; exact HCN.out
            · rw [flat_len]
            · rw [hnq, len_ins hil, HKL.out]
            · rw [len_ins hil, HKL.out]; exact HCAP.out.1
            · rw [put3_size]; exact HCUS.out
            · rw [len_ins hil]; exact shift_done _ HSHI.out hil hsz
          have HPUT : Hid (∀ nq a, (((((wr.drewN nq).setCell ⟨gg, i * 3, none⟩ (.string a.1)).setCell ⟨gg, i * 3 + 1, none⟩ (.string a.2.2)).setCell ⟨gg, i * 3 + 2, none⟩ (.int .i64 (stN a.2.1 : Nat))).heap[gg]? = some (.cells (put3 cu i a) 48 (0, 0)) ∧
              (∀ q, q ≠ gg → ((((wr.drewN nq).setCell ⟨gg, i * 3, none⟩ (.string a.1)).setCell ⟨gg, i * 3 + 1, none⟩ (.string a.2.2)).setCell ⟨gg, i * 3 + 2, none⟩ (.int .i64 (stN a.2.1 : Nat))).heap[q]? = wr.heap[q]?) ∧
              ((((wr.drewN nq).setCell ⟨gg, i * 3, none⟩ (.string a.1)).setCell ⟨gg, i * 3 + 1, none⟩ (.string a.2.2)).setCell ⟨gg, i * 3 + 2, none⟩ (.int .i64 (stN a.2.1 : Nat))).heap.size = wr.heap.size ∧
              Below w.heap.size w ((((wr.drewN nq).setCell ⟨gg, i * 3, none⟩ (.string a.1)).setCell ⟨gg, i * 3 + 1, none⟩ (.string a.2.2)).setCell ⟨gg, i * 3 + 2, none⟩ (.int .i64 (stN a.2.1 : Nat))))) := Lib.hid fun nq (a : AttrT) => by
            have h1 : (wr.drewN nq).heap[gg]? = some (.cells cu 48 (0, 0)) := HCU.out
            have h2 := Lib.heap_setCell_same (i := i * 3) h1 (.string a.1)
            have h3 := Lib.heap_setCell_same (i := i * 3 + 1) h2 (.string a.2.2)
            have h4 := Lib.heap_setCell_same (i := i * 3 + 2) h3 (.int .i64 (stN a.2.1 : Nat))
            refine ⟨h4, fun q hq => ?_, ?_, (((below_drewN HBX.out nq).setCell (p := ⟨gg, i * 3, none⟩) hge _).setCell (p := ⟨gg, i * 3 + 1, none⟩) hge _).setCell (p := ⟨gg, i * 3 + 2, none⟩) hge _⟩
            · exact (Below.heap_setCell _ _ _ _ hq).trans ((Below.heap_setCell _ _ _ _ hq).trans (Below.heap_setCell _ _ _ _ hq))
            · rw [size_setCell, size_setCell, size_setCell]; rfl
          have z1 : (0 : Int) ≤ (i : Int) := by omega
          have z2 : (i : Int) < (k : Int) + 1 := by omega
          have hold : ∀ t, t < 3 → ∃ v, wr.cell? ⟨gg, i * 3 + t, none⟩ = some v := fun t ht => by
            have hlt : i * 3 + t < cu.size := by rw [HCUS.out]; have := HCAP.out.1; omega
            exact ⟨cu[i * 3 + t], by rw [Lib.cell_of_heap HCU.out]; exact Array.getElem?_eq_getElem hlt⟩
          obtain ⟨v0, e0⟩ := hold 0 (by decide)
          obtain ⟨v1, e1⟩ := hold 1 (by decide)
          obtain ⟨v2, e2⟩ := hold 2 (by decide)
          rw [Nat.add_zero] at e0
          clear hold
          by_cases hi0 : i = 0
          · have hI : ¬ (0 : Int) < (i : Int) := by omega
            have hIn : ¬ 0 < i := by omega
            have HST : Hid (i = 0 ∨ ltS (l.getD (i - 1) zA).1 a1 = true) := Lib.hid (.inl hi0)
            clear hi0
            go_wp2
            go_quiet (fail)
            go_wp2
            obtain ⟨p1, p2, p3, p4⟩ := HPUT.out nq (a1, a2, a3)
            obtain ⟨left', cnt'', l', h1, h2, h3, h4, h5, h6, h7, h8, rfl⟩ := HDONE.out HST.out _ _ p2 p1 p3 p4 rfl
            exact ⟨⟨left', _, l', h1, h2, h3, h4, h5, h6, h7, h8⟩, by rw [h1.left_eq, HRG0.out.left_eq]; have := HLT0.out; omega⟩
          · have hI : (0 : Int) < (i : Int) := by omega
            have hIn : 0 < i := by omega
            have hIz : ¬ i = 0 := by omega
            have hi1 : 1 ≤ i := by omega
            clear hi0
            have hbm : l.getD (i - 1) zA ∈ l := by
              rw [List.getD_eq_getElem?_getD, List.getElem?_eq_getElem (by rw [HKL.out]; omega)]; exact List.getElem_mem _
            have hbn := HNEW.out _ hbm
            have hrow : ∀ t, t < 3 → wr.cell? ⟨gg, (i - 1) * 3 + t, none⟩ = (out3 (l.getD (i - 1) zA))[t]? := fun t ht => by
              rw [Lib.cell_of_heap HCU.out, HSHI.out (i - 1) t (by rw [HKL.out]; omega) (by omega) ht, if_pos (by omega)]
            have HDN : Hid (Shift (put3 cu i (l.getD (i - 1) zA)) l (i - 1)) := Lib.hid (shift_down HSHI.out hi1 (by rw [HKL.out]; exact hik) (by rw [HKL.out, HCUS.out]; have := HCAP.out.1; omega))
            have HLB := Lib.hid (Eq.refl (l.getD (i - 1) zA))
            generalize hb : l.getD (i - 1) zA = b at hbn hrow HDN HDONE
            have HBE := Lib.hid hb
            clear hb hbm HLB
            obtain ⟨b1, b2, b3⟩ := b
            have d0 : wr.cell? ⟨gg, (i - 1) * 3, none⟩ = some (.string b1) := hrow 0 (by decide)
            have d1 : wr.cell? ⟨gg, (i - 1) * 3 + 1, none⟩ = some (.string b3) := hrow 1 (by decide)
            have d2 : wr.cell? ⟨gg, (i - 1) * 3 + 2, none⟩ = some (.int .i64 (stN b2 : Nat)) := hrow 2 (by decide)
            have hq2 : (b1.toList == a1.toList) = false := by
              rw [beq_eq_false_iff_ne]
              exact fun e => hbn (toList_inj e)
            have HBN : Hid (b1 ≠ a1) := Lib.hid hbn
            have hwr : IntKind.i64.wrap ((i : Int) - 1) = (i : Int) - 1 := by rw [IntKind.wrap_i64]; omega
            have y1 : (0 : Int) ≤ (i : Int) - 1 := by omega
            have y2 : (i : Int) - 1 < (k : Int) + 1 := by omega
            clear hrow hbn
            obtain ⟨B, hB⟩ : ∃ B, ltS b1 a1 = B := ⟨_, rfl⟩
            have hq1 : Op.bytesLess b1.toList a1.toList = B := hB
            have HLT1 := Lib.hid hB
            clear hB
            cases B with
            | true =>
              have HST : Hid (i = 0 ∨ ltS b1 a1 = true) := Lib.hid (.inr HLT1.out)
              go_wp2
              go_quiet (fail)
              go_wp2
              obtain ⟨p1, p2, p3, p4⟩ := HPUT.out nq (a1, a2, a3)
              obtain ⟨left', cnt'', l', h1, h2, h3, h4, h5, h6, h7, h8, rfl⟩ := HDONE.out HST.out _ _ p2 p1 p3 p4 rfl
              exact ⟨⟨left', _, l', h1, h2, h3, h4, h5, h6, h7, h8⟩, by rw [h1.left_eq, HRG0.out.left_eq]; have := HLT0.out; omega⟩
            | false =>
              have HGT2 : Hid (∀ r, i - 1 ≤ r → r < l.length → ltS a1 (l.getD r zA).1 = true) := Lib.hid fun r h1 h2 => by
                by_cases e : r = i - 1
                · rw [e, HBE.out]; exact ltS_total HLT1.out HBN.out
                · exact HGT.out r (by omega) h2
              clear HDONE
              go_wp2
              go_quiet (fail)
              go_wp2
              go_roundw
              case rel =>
                obtain ⟨p1, p2, p3, p4⟩ := HPUT.out nq (b1, b2, b3)
                exact ⟨i - 1, put3 cu i (b1, b2, b3), by omega, by go_num, p1, by rw [put3_size]; exact HCUS.out, HDN.out, HGT2.out, fun q hq => (p2 q hq).trans (HHEAP.out q hq), p4, by rw [p3]; exact HSZX.out⟩
              case measure => simp [intOf]; omega
end Go.Proofs.YteipeagdflcjjaaDoor.Am
/- AttrMatch of one line of one part with several attributes; lines as lists of bytes. -/
namespace Go.Proofs.YteipeagdflcjjaaDoor.Am
open Go.RowKit
set_option linter.unusedSimpArgs false
set_option linter.unusedVariables false

/-! ## A text of lines, each a list of bytes -/
def ltxt (B : Nat → List Nat) : Nat → List Nat
  | 0 => []
  | k + 1 => ltxt B k ++ (B k ++ [10])
theorem ltxt_split (B : Nat → List Nat) (i : Nat) : ∀ q, i < q → ∃ rest, ltxt B q = ltxt B i ++ (B i ++ [10] ++ rest) := by
  intro q
  induction q with
  | zero => intro h; omega
  | succ q ih =>
    intro h
    by_cases e : i = q
    · subst e
      exact ⟨[], by rw [List.append_nil]; rfl⟩
    · obtain ⟨rest, hr⟩ := ih (by omega)
      refine ⟨rest ++ (B q ++ [10]), ?_⟩
      show ltxt B q ++ _ = _
      rw [hr]; simp
theorem lines_atB {text : ByteArray} {B : Nat → List Nat} {q : Nat} (ht : nb text = ltxt B q) (hr : ∀ i, i < q → ∀ c ∈ B i, 32 ≤ c ∧ c ≤ 122) :
    LinesAt (fun i => bx text i) text.size q (fun i => (ltxt B i).length) (fun i => (B i).length) := by
  refine ⟨rfl, by rw [← nb_length, ht], fun i hi => ?_⟩
  obtain ⟨rest, hs⟩ := ltxt_split B i q hi
  have hx : nb text = ltxt B i ++ ((B i ++ [10]) ++ rest) := by rw [ht, hs]
  refine ⟨⟨?_, fun j hj => nb_lt (bx_mem hj), fun j hj => ?_, ?_⟩, ?_⟩
  · have := (bx_at hx (B i).length (by simp)).2
    exact this
  · have h1 := (bx_at hx j (by rw [List.length_append]; simp; omega)).1
    have h2 : (B i ++ [10]).getD j 0 ∈ B i := by
      rw [List.getD_eq_getElem?_getD, List.getElem?_append_left hj, List.getElem?_eq_getElem hj]
      exact List.getElem_mem hj
    have := hr i hi _ h2
    rw [h1]; omega
  · have h1 := (bx_at hx (B i).length (by simp)).1
    rw [h1, List.getD_eq_getElem?_getD, List.getElem?_append_right (Nat.le_refl _), Nat.sub_self]; rfl
  · show (ltxt B i ++ (B i ++ [10])).length = _
    rw [List.length_append, List.length_append]; simp; omega
theorem line_textB {text : ByteArray} {B : Nat → List Nat} {q i : Nat} (ht : nb text = ltxt B q) (hi : i < q) (hr : ∀ c ∈ B i, 32 ≤ c ∧ c ≤ 122) :
    nb (lineT (fun i => bx text i) (ltxt B i).length (B i).length) = B i := by
  obtain ⟨rest, hs⟩ := ltxt_split B i q hi
  have hx : nb text = ltxt B i ++ (B i ++ ([10] ++ rest)) := by rw [ht, hs]; simp
  unfold lineT
  have hl : (List.range (B i).length).map (fun j => bx text ((ltxt B i).length + j)) = B i := by
    refine List.ext_getElem? fun j => ?_
    rw [List.getElem?_map]
    by_cases hj : j < (B i).length
    · rw [List.getElem?_range hj, List.getElem?_eq_getElem hj]
      have := (bx_at hx j hj).1
      rw [List.getD_eq_getElem?_getD, List.getElem?_eq_getElem hj] at this
      show some (bx text ((ltxt B i).length + j)) = some _
      rw [this]; rfl
    · rw [List.getElem?_eq_none (by simp; omega), List.getElem?_eq_none (by omega)]; rfl
  rw [hl]
  exact nb_bs _ fun c hc => by have := hr c hc; omega

/-! ## A line of one part and several attributes -/
theorem lineL_range {nm : ByteArray} {g : Nat → AttrT} (hp : GoodPart nm) : ∀ k, (∀ i, i < k → GoodA (g i)) → ∀ c ∈ lineL (nb nm) [32] g k, 32 ≤ c ∧ c ≤ 122 := by
  intro k
  induction k with
  | zero =>
    intro _ c hc
    have := part_range (n := 2) (.inl hp) c hc; omega
  | succ k ih =>
    intro h c hc
    have hc : c ∈ lineL (nb nm) [32] g k ++ ([32] ++ gaText (g k)) := hc
    rcases List.mem_append.mp hc with hc | hc
    · exact ih (fun i hi => h i (by omega)) c hc
    · rcases List.mem_cons.mp hc with rfl | hc
      · decide
      · have := gaText_range (h k (by omega)) c hc; omega
theorem readLineK {nm line : ByteArray} {k : Nat} {g : Nat → AttrT} (h : GoodPart nm) (ha : AreP k g) (hl : nb line = lineL (nb nm) [32] g k) (allow : Bool) (dA : Option Addr) (dn dc : Nat) (w : World) :
    Calls Tryd.prog 40 #[.string line, .slice dA dn dc, .bool allow] w (OkLine nm k (fun i => readOf (g i)) (.slice dA dn dc) w) := by
  have hsz : nm.size ≤ 10 := (toks_spec h).2.2.2
  have hpre : LinePre 1 (fun _ => nm) k g := ⟨⟨Nat.le_refl _, by decide, fun i hi => .inl h⟩, ha⟩
  have hgt : nb nm = gt (fun _ => nm) false 1 := by show nb nm = [] ++ [] ++ nb nm; simp
  have hsp : SpOk (⟨#[32]⟩ : ByteArray) := by unfold SpOk; decide
  obtain ⟨z1, z2, z3, z4, z5, z6⟩ := line_fields (line := line) (b2 := false) hpre hgt (by omega) hsp (by
    rw [hl, hgt]; rfl)
  have hlen : ((List.range k).map fun i => bs (gaText (g i))).length = k := by rw [List.length_map, List.length_range]
  have hat := hpre.atts
  have hg : ∀ i, i < k → ((List.range k).map fun i => bs (gaText (g i))).getD i ⟨#[]⟩ = bs (gaText (g i)) := fun i hi => by
    rw [List.getD_eq_getElem?_getD, List.getElem?_map, List.getElem?_range hi]; rfl
  have := parseLine_any line nm _ (fun i => readOf (g i)) allow dA dn dc w z1 z2 z3 z4 z5 (by rw [hlen]; omega) (by rw [hlen]; omega) (by omega) z6
    (fun i hi => by
      rw [hlen] at hi
      rw [hg i hi]
      exact gaText_read (hat.2.2 i hi) (nb_bs _ fun c hc => by have := gaText_range (hat.2.2 i hi) c hc; omega))
    (fun i hi => word_okN (hat.2.2 i (by rw [hlen] at hi; exact hi)).1)
  rw [hlen] at this
  exact this

/-! ## What is gathered of one line -/
theorem puts_M {g : Nat → AttrT} : ∀ k, (∀ i j, j < i → i < k → (g i).1 ≠ (g j).1) → ∀ s a, (RM.empty.puts k g).M s = some a ↔ ∃ j, j < k ∧ g j = a ∧ a.1 = s := by
  intro k
  induction k with
  | zero =>
    intro _ s a
    constructor
    · intro h; cases h
    · rintro ⟨j, h, _⟩; omega
  | succ k ih =>
    intro hd s a
    rw [RM.puts_succ]
    unfold RM.put
    dsimp only
    by_cases e : nb s = nb (g k).1
    · rw [if_pos e]
      constructor
      · intro h
        injection h with h
        exact ⟨k, by omega, h, by rw [← h]; exact (nb_inj e).symm⟩
      · rintro ⟨j, hj, h1, h2⟩
        by_cases ej : j = k
        · rw [← h1, ej]
        · exfalso
          refine hd k j (by omega) (by omega) ?_
          rw [h1, h2]; exact (nb_inj e).symm
    · rw [if_neg e, ih (fun i j h1 h2 => hd i j h1 (by omega))]
      constructor
      · rintro ⟨j, hj, h1, h2⟩; exact ⟨j, by omega, h1, h2⟩
      · rintro ⟨j, hj, h1, h2⟩
        refine ⟨j, ?_, h1, h2⟩
        by_cases ej : j = k
        · exfalso; apply e; rw [← ej, h1, h2]
        · omega
theorem puts_K (g : Nat → AttrT) : ∀ k, (RM.empty.puts k g).K ≤ k := by
  intro k
  induction k with
  | zero => exact Nat.le_refl 0
  | succ k ih =>
    rw [RM.puts_succ]
    unfold RM.put
    dsimp only
    split <;> omega
def allSpec (n : Nat) (nm : ByteArray) (g : Nat → AttrT) : Spec := ⟨1, fun _ => nm, fun _ => [nm], fun _ => 0, fun _ => n, fun _ j => readOf (g j)⟩
/-- What is told: all attributes by their names, if the pattern hits. -/
def AllPost (hit : Bool) (n : Nat) (g : Nat → AttrT) (w : World) (e : Ending) (w' : World) : Prop :=
  ∃ v l, e = .returned (.tuple #[v, .bool hit, .string ⟨#[]⟩]) ∧ (∀ a, a ∈ l ↔ hit = true ∧ ∃ j, j < n ∧ readOf (g j) = a) ∧ SortedBy (fun a : AttrT => a.1) l ∧ OutAt w' w.heap.size v l ∧ Below w.heap.size w w'
theorem readOf_name (a : AttrT) : (readOf a).1 = a.1 := rfl
theorem matchAll_any (text nm : ByteArray) (n : Nat) (g : Nat → AttrT) (f2 : Nat → ByteArray) (pA : Option Addr) (pn pc : Nat) (ea : Addr) (msg : ByteArray) (w : World)
    (h : GoodPart nm) (hdd : hasSub nm ⟨#[42, 42]⟩ = false) (ha : AreP n g) (ht : nb text = lineL (nb nm) [32] g n ++ [10]) (hE : ErrAt w 6 ea msg) (hpt : Strs w pA pn f2) (hpn : 1 ≤ pn ∧ pn ≤ 100) (hnm : ∀ i, i < pn → Nm (f2 i)) :
    Calls Tryd.prog 29 #[.string text, .slice none 0 0, .bool false, .slice pA pn pc, .slice none 0 0] w (AllPost (MR nm (f2 (pn - 1))) n g w) := by
  obtain ⟨a1, a5, hga, had⟩ := ha
  have hsz : nm.size ≤ 10 := (toks_spec h).2.2.2
  have ht' : nb text = ltxt (fun _ => lineL (nb nm) [32] g n) 1 := by rw [ht]; show _ = [] ++ (_ ++ [10]); simp
  have hlen : text.size = (lineL (nb nm) [32] g n).length + 1 := by rw [← nb_length, ht, List.length_append]; rfl
  have hll := line_len (nb nm) [32] g n hga
  have hnl : (nb nm).length = nm.size := nb_length nm
  have hmul : n * ([32].length + 62) ≤ 5 * 63 := Nat.mul_le_mul a5 (Nat.le_refl 63)
  have hS : (allSpec n nm g).Ok := ⟨show 1 ≤ 1000 by decide, fun i _ => show n ≤ 1000 by omega, fun i _ j hj => (by show (g j).1.size ≤ maxLen; have := (hga j hj).1.2.2; unfold maxLen; omega),
    fun i _ => ⟨⟨show 0 < 1 by decide, show 1 ≤ 10 by decide⟩, Nat.zero_le _, fun j hj => absurd hj (Nat.not_lt_zero _), fun j _ hj => (by
      obtain rfl : j = 0 := by have : j < 1 := hj; omega
      exact ⟨h, hdd⟩)⟩⟩
  have hR : mgoF 0 ((allSpec n nm g).hit 0 (fun _ => ⟨#[]⟩) pn f2) (allSpec n nm g).cnt (allSpec n nm g).att (allSpec n nm g).q RM.empty false = if MR nm (f2 (pn - 1)) = true then (RM.empty.puts n (fun j => readOf (g j)), true) else (RM.empty, false) := by
    have e : (allSpec n nm g).hit 0 (fun _ => ⟨#[]⟩) pn f2 = fun _ => MR nm (f2 (pn - 1)) := funext fun i => hit_one nm _ pn f2 hpn.1
    rw [e]
    show mgoF 0 _ _ _ 1 RM.empty false = _
    unfold mgoF
    rw [if_neg (fun hh => absurd hh.1 (Nat.lt_irrefl 0))]
    by_cases hh : MR nm (f2 (pn - 1)) = true
    · rw [if_pos hh, if_pos hh]; rfl
    · rw [if_neg hh, if_neg hh]; rfl
  have hd2 : ∀ i j, j < i → i < n → (readOf (g i)).1 ≠ (readOf (g j)).1 := had
  refine (attrMatchK_any text (allSpec n nm g) _ _ none pA none 0 0 pn pc 0 0 (fun _ => ⟨#[]⟩) f2 (fun _ => ⟨#[]⟩) false ea msg w ⟨by omega, by omega⟩ hS (lines_atB ht' fun i _ => lineL_range h n hga)
    (fun i hi A c W => ?_) hE (fun i hi => absurd hi (Nat.not_lt_zero _)) (by decide) hpt hpn hnm (fun i hi => absurd hi (Nat.not_lt_zero _)) (by decide) ?_ ?_).mono fun e w' hp => ?_
  · have hi0 : i < 1 := hi
    obtain rfl : i = 0 := by omega
    refine (readLineK h ⟨a1, a5, hga, had⟩ (line_textB (B := fun _ => lineL (nb nm) [32] g n) (q := 1) (i := 0) ht' (by decide) (lineL_range h n hga)) false A 0 c W).mono fun e w' hl => ?_
    obtain ⟨b, h1, ⟨h2, h3, h4, p, h5, h6, h7⟩, h8⟩ := line_of_ok hl (by omega) (by have := (toks_spec h).2.2.1; omega)
    refine ⟨b, h1, ⟨h2, h3, h4, p, h5, h6, ?_⟩, h8⟩
    rw [h7, splitN_one _ (part_no47 h)]; rfl
  · intro s a hs
    rw [hR] at hs
    by_cases hh : MR nm (f2 (pn - 1)) = true
    · rw [if_pos hh] at hs
      obtain ⟨_, _, _, h2⟩ := (puts_M n hd2 s a).mp hs
      rw [h2]
    · rw [if_neg hh] at hs; cases hs
  · rw [hR]
    by_cases hh : MR nm (f2 (pn - 1)) = true
    · rw [if_pos hh]; have := puts_K (fun j => readOf (g j)) n; show (RM.empty.puts n _).K ≤ 100; omega
    · rw [if_neg hh]; exact Nat.zero_le _
  · rw [hR] at hp
    obtain ⟨v, l, rfl, hm, hs, ho, hb⟩ := hp
    by_cases hh : MR nm (f2 (pn - 1)) = true
    · rw [if_pos hh] at hm
      rw [if_pos hh]
      refine ⟨v, l, by rw [hh], fun a => (hm a).trans ((puts_M n hd2 a.1 a).trans ⟨fun ⟨j, h1, h2, _⟩ => ⟨hh, j, h1, h2⟩, fun ⟨_, j, h1, h2⟩ => ⟨j, h1, h2, rfl⟩⟩), hs, ho, hb⟩
    · rw [if_neg hh] at hm
      rw [if_neg hh]
      refine ⟨v, l, by rw [Bool.eq_false_iff.mpr hh], fun a => (hm a).trans ⟨fun h => (by cases h), fun h => absurd h.1 hh⟩, hs, ho, hb⟩
end Go.Proofs.YteipeagdflcjjaaDoor.Am
