/- (*pattern).Match of gitattributes. -/
import Derived.Test.YteipeagdflcjjaaDoorQAmM
import Derived.Test.YteipeagdflcjjaaDoorQGlobM
import Derived.Test.YteipeagdflcjjaaDoorGaMatch
import Derived.Test.YteipeagdflcjjaaDoorGName
namespace Go.Proofs.YteipeagdflcjjaaDoor.Am
open Go.RowKit
set_option linter.unusedSimpArgs false
set_option linter.unusedVariables false

def pmL (M : ByteArray → ByteArray → Bool) : List ByteArray → List ByteArray → Bool
  | [], [] => true
  | p :: r, x :: xs => M p x && pmL M r xs
  | _, _ => false
theorem pmL_nil_cons (M : ByteArray → ByteArray → Bool) (x : ByteArray) (xs : List ByteArray) : pmL M [] (x :: xs) = false := rfl
theorem pmL_cons_nil (M : ByteArray → ByteArray → Bool) (p : ByteArray) (r : List ByteArray) : pmL M (p :: r) [] = false := rfl
/-- Does a part match a name? -/
noncomputable def MR (p x : ByteArray) : Bool := gn hasR (toksOf p) (nb x)
/-- What the pattern answers. -/
noncomputable def hitB (PL : List ByteArray) (s dn : Nat) (d : Nat → ByteArray) (pn : Nat) (f : Nat → ByteArray) : Bool :=
  decide (dn < pn) && ((List.range dn).all fun j => (f j).toList == (d j).toList) && pmL MR (PL.drop s) (if PL.length = 1 then [f (pn - 1)] else (pathL f pn).drop dn)
/-- The parts of a pattern: s parts ahead that are empty (none or one), good ones behind. -/
structure Parts (PL : List ByteArray) (s : Nat) : Prop where
  len : s < PL.length ∧ PL.length ≤ 10
  one : s ≤ 1
  empty : ∀ j, j < s → nb (PL.getD j ⟨#[]⟩) = []
  good : ∀ j, s ≤ j → j < PL.length → GoodPart (PL.getD j ⟨#[]⟩) ∧ hasSub (PL.getD j ⟨#[]⟩) ⟨#[42, 42]⟩ = false
theorem not_dd {p : ByteArray} (h : hasSub p ⟨#[42, 42]⟩ = false) : nb p ≠ [42, 42] := by
  intro e
  have hp : p = ⟨#[42, 42]⟩ := nb_inj (e.trans rfl)
  rw [hp] at h
  exact absurd h (by decide)
theorem good_ne {p : ByteArray} (h : GoodPart p) : nb p ≠ [] := by
  obtain ⟨T, _, _, h1, _⟩ := h
  intro e
  have h0 : p.size = 0 := by rw [← nb_length, e]; rfl
  omega
theorem match_R {p x : ByteArray} (hp : GoodPart p) (hx : Nm x) : Mt p x = MR p x := by
  unfold Mt
  rw [gm_gn _ _ _ (Nat.lt_succ_self _) (fun c hc => (hx.all c hc).2), gn_hasR _ _ (fun c hc => (hx.all c hc).2)]; rfl
theorem match_any (p s : ByteArray) (w : World) (hp : GoodPart p) (hn : Nm s) : Calls Tryd.prog 137 #[.string p, .string s] w (MatchPost (MR p s) w) := by
  obtain ⟨h1, h2, _, h4⟩ := toks_spec hp
  have := Ga.zzMatch_any (toksOf p) p s w h1 h2 (by omega) hn
  rw [← match_R hp hn]
  exact this
theorem pathL_len (f : Nat → ByteArray) (n : Nat) : (pathL f n).length = n := by unfold pathL; rw [List.length_map, List.length_range]
theorem pathL_at (f : Nat → ByteArray) (n j : Nat) (h : j < n) : (pathL f n)[j]? = some (f j) := by
  unfold pathL
  rw [List.getElem?_map, List.getElem?_range h]; rfl
def HitPost (b : Bool) (w : World) (e : Ending) (w' : World) : Prop := e = .returned (.bool b) ∧ Below w.heap.size w w'
theorem not_str {a b : ByteArray} (h : (a.toList == b.toList) = false) : ¬ (a.toList == b.toList) = true := by rw [h]; decide
theorem all_no {n k : Nat} {q : Nat → Bool} (hk : k < n) (h : q k = false) : (List.range n).all q = false := by
  rw [List.all_eq_false]
  exact ⟨k, List.mem_range.mpr hk, by rw [h]; decide⟩
theorem all_yes {n : Nat} {q : Nat → Bool} (h : ∀ k, k < n → q k = true) : (List.range n).all q = true := by
  rw [List.all_eq_true]
  exact fun k hk => h k (List.mem_range.mp hk)

set_option maxRecDepth 100000 in
set_option maxHeartbeats 8000000 in
theorem patMatch_any (pb : Nat) (PL : List ByteArray) (s dn dc pn pc c : Nat) (dA pA A : Option Addr) (d f : Nat → ByteArray) (w : World)
    (hrow : w.heap[pb]? = some (.cells #[.slice dA dn dc, .slice A PL.length c] 154 (0, 0))) (hc : PL.length ≤ c ∧ c ≤ maxLen) (hst : Strs w A PL.length (fun i => PL.getD i ⟨#[]⟩)) (hP : Parts PL s)
    (hd : Strs w dA dn d) (hdn : dn ≤ 100) (hp : Strs w pA pn f) (hpn : 1 ≤ pn ∧ pn ≤ 100) (hpc : pn ≤ pc ∧ pc ≤ 9223372036854775807) (hnm : ∀ i, i < pn → Nm (f i)) :
    Calls Tryd.prog 135 #[.pointer (some ⟨pb, 0, none⟩), .slice pA pn pc] w (HitPost (hitB PL s dn d pn f) w) := by
  have c0 : w.cell? ⟨pb, 0, none⟩ = some (.slice dA dn dc) := by rw [Lib.cell_of_heap hrow]; rfl
  have c1 : w.cell? ⟨pb, 1, none⟩ = some (.slice A PL.length c) := by rw [Lib.cell_of_heap hrow]; rfl
  have HST := Lib.hid hst; have HP := Lib.hid hP; have HD := Lib.hid hd; have HF := Lib.hid hp; have HNM := Lib.hid hnm; have HC := Lib.hid hc
  have hlen10 := hP.len.2
  have hlen1 := hP.len.1
  clear hrow hst hP hd hp hnm hc
  obtain ⟨hpn1, hpn2⟩ := hpn
  obtain ⟨hpc1, hpc2⟩ := hpc
  go_enter Tryd.func135, Tryd.ntmps135
  by_cases hle : pn ≤ dn
  · have hle' : (pn : Int) ≤ dn := by omega
    have HH : Hid (hitB PL s dn d pn f = false) := Lib.hid (by unfold hitB; rw [decide_eq_false (by omega)]; rfl)
    clear hle
    go_wp2
    go_ret
    exact ⟨by rw [HH.out]; rfl, Below.refl _ _⟩
  have hle' : ¬ (pn : Int) ≤ dn := by omega
  go_wp2
  go_loop [26] (fun i => ∃ k : Nat, k ≤ dn ∧ i = .int .i64 k ∧ ∀ j, j < k → ((f j).toList == (d j).toList) = true) (fun i => dn - (intOf i).toNat)
  case atStart => exact ⟨0, Nat.zero_le _, rfl, fun j h => absurd h (Nat.not_lt_zero _)⟩
  case round =>
    obtain ⟨k, hk, rfl, hall⟩ := hrel
    have HALL := Lib.hid hall; clear hall
    by_cases hlt : k < dn
    · obtain ⟨b1, o1, rfl, _, hc1⟩ := HF.out.at k (by omega)
      obtain ⟨b2, o2, rfl, _, hc2⟩ := HD.out.at k hlt
      cases hq : ((f k).toList == (d k).toList) with
      | true =>
        have HQ := Lib.hid hq
        go_wp2
        go_round
        case rel =>
          refine ⟨k + 1, by omega, by go_num, fun j hj => ?_⟩
          by_cases e : j = k
          · subst e; exact HQ.out
          · exact HALL.out j (by omega)
        case measure => simp [intOf]; omega
      | false =>
        have HH : Hid (hitB PL s dn d pn f = false) := Lib.hid (by unfold hitB; rw [all_no hlt hq, Bool.and_false]; rfl)
        go_wp2
        go_ret
        exact ⟨by rw [HH.out]; rfl, Below.refl _ _⟩
    · obtain rfl : k = dn := by omega
      have HH : Hid (hitB PL s k d pn f = pmL MR (PL.drop s) (if PL.length = 1 then [f (pn - 1)] else (pathL f pn).drop k)) := Lib.hid (by
        unfold hitB
        rw [decide_eq_true (by omega), all_yes HALL.out]; simp)
      clear HALL hlt
      -- which part of the path is looked at
      obtain ⟨rn, hrn⟩ : ∃ rn, rn = if PL.length = 1 then 1 else pn - k := ⟨_, rfl⟩
      obtain ⟨r0, hr0⟩ : ∃ r0, r0 = if PL.length = 1 then pn - 1 else k := ⟨_, rfl⟩
      have hrr : r0 + rn = pn ∧ 1 ≤ rn := by rw [hrn, hr0]; split <;> omega
      obtain ⟨hrp, hr1⟩ := hrr
      have HPATH : Hid ((if PL.length = 1 then [f (pn - 1)] else (pathL f pn).drop k) = pathL (fun i => f (r0 + i)) rn) := Lib.hid (by
        rw [hrn, hr0]
        by_cases h1 : PL.length = 1
        · rw [if_pos h1, if_pos h1, if_pos h1]; rfl
        · rw [if_neg h1, if_neg h1, if_neg h1]
          refine List.ext_getElem? fun i => ?_
          rw [List.getElem?_drop]
          by_cases hi : i < pn - k
          · rw [pathL_at f pn (k + i) (by omega), pathL_at _ _ i hi]
          · rw [List.getElem?_eq_none (by rw [pathL_len]; omega), List.getElem?_eq_none (by rw [pathL_len]; omega)])
      have HG : Hid (hitB PL s k d pn f = pmL MR (PL.drop s) (pathL (fun i => f (r0 + i)) rn)) := Lib.hid (by rw [HH.out, HPATH.out])
      obtain ⟨G, hGE⟩ : ∃ G, hitB PL s k d pn f = G := ⟨_, rfl⟩
      rw [hGE] at HG
      have HGE := Lib.hid hGE; clear hGE
      obtain ⟨xb, xo, rfl, _, _⟩ := HF.out.at 0 (by omega)
      clear HH HPATH hle
      go_upto_if 43 with (fail)
      go_cut [1] (fun v wx => ∃ (o c2 : Nat), v = .slice (some ⟨xb, o, none⟩) rn c2 ∧ Strs w (some ⟨xb, o, none⟩) rn (fun i => f (r0 + i)) ∧ wx = w)
      case first =>
        by_cases h1 : PL.length = 1
        · have q1 : ((PL.length : Int) == 1) = true := beq_iff_eq.mpr (by omega)
          rw [if_pos h1] at hrn hr0
          subst hrn
          have HS : Hid (Strs w (some ⟨xb, xo + (pn - 1), none⟩) 1 (fun i => f (r0 + i))) := Lib.hid fun i hi => by
            obtain ⟨b', o', e, h2, h3⟩ := HF.out (pn - 1 + i) (by omega)
            cases e
            exact ⟨xb, xo + (pn - 1), rfl, h2, by rw [Nat.add_assoc, hr0]; exact h3⟩
          go_wp2
          go_meet
          case rel => exact ⟨_, _, by rw [show pn - (pn - 1) = 1 by omega], HS.out, rfl⟩
        · have q1 : ((PL.length : Int) == 1) = false := beq_eq_false_iff_ne.mpr (by omega)
          rw [if_neg h1] at hrn hr0
          subst hrn hr0
          have HS : Hid (Strs w (some ⟨xb, xo + r0, none⟩) (pn - r0) (fun i => f (r0 + i))) := Lib.hid fun i hi => by
            obtain ⟨b', o', e, h2, h3⟩ := HF.out (r0 + i) (by omega)
            cases e
            exact ⟨xb, xo + r0, rfl, h2, by rw [Nat.add_assoc]; exact h3⟩
          have hk2 : (r0 : Int) ≤ pn := by omega
          go_wp2
          go_meet
          case rel => exact ⟨_, _, rfl, HS.out, rfl⟩
      case rest =>
        obtain ⟨o, c2, rfl, hps, hw⟩ := hcut
        have hw' := hw.symm
        clear hw
        subst hw'
        have HPS := Lib.hid hps
        have HRN := Lib.hid (And.intro hrp hr1)
        have HP0 : Hid (PthAt w (fun i => PL.getD i ⟨#[]⟩) PL.length 0 (.slice A PL.length c) PL.length) := Lib.hid ⟨A, c, rfl, by omega, HC.out.1, by simpa using HST.out⟩
        have hrn100 : rn ≤ 100 := by omega
        clear hps hrn hr0 HF HD
        go_wp2
        clear c0 c1
        go_loopw [7, 8, 9, 10, 62] (fun pv mv dv ev iv wr => ∃ i l : Nat, i ≤ rn ∧ PthAt wr (fun i => PL.getD i ⟨#[]⟩) PL.length (if i = 0 then 0 else s + i) pv l ∧ mv = .bool (decide (0 < i)) ∧ dv = .bool false ∧ ev = .nilIface ∧ iv = .int .i64 (i : Nat) ∧ G = pmL MR (PL.drop (s + i)) ((pathL (fun i => f (r0 + i)) rn).drop i) ∧ Below w.heap.size w wr) (fun _ _ _ _ iv _ => rn - (intOf iv).toNat)
        case atStart => exact ⟨0, PL.length, Nat.zero_le _, by rw [if_pos rfl]; exact HP0.out, rfl, rfl, rfl, rfl, HG.out, Below.refl _ _⟩
        case round =>
          clear HP0 HG
          obtain ⟨i, l, hi, hpth, rfl, rfl, rfl, rfl, hG, hbel⟩ := hrel
          have HPT := Lib.hid hpth; have HGI := Lib.hid hG; have HB := Lib.hid hbel
          clear hG hbel
          obtain ⟨Aq, C, rfl, hql, hlc, hsq⟩ := hpth
          have HSQ := Lib.hid hsq; clear hsq HPT
          by_cases hlt : i < rn
          · obtain ⟨b', o', he, _, hcx⟩ := (HPS.out.below HB.out).at i hlt
            cases he
            have HNX : Hid (Nm (f (r0 + i))) := Lib.hid (HNM.out _ (by have := HRN.out; omega))
            have HGX : Hid (G = pmL MR (PL.drop (s + i)) (f (r0 + i) :: (pathL (fun i => f (r0 + i)) rn).drop (i + 1))) := Lib.hid (by rw [HGI.out, pathL_drop _ rn i hlt])
            generalize f (r0 + i) = x at hcx HNX HGX
            cases l with
            | zero =>
              have HF0 : Hid (G = false) := Lib.hid (by
                rw [HGX.out, List.drop_eq_nil_of_le (by
                  have h1 := HP.out.len.1
                  by_cases h0 : i = 0
                  · rw [if_pos h0] at hql; omega
                  · rw [if_neg h0] at hql; omega)]
                rfl)
              go_wp2
              go_ret
              exact ⟨by rw [HGE.out, HF0.out]; rfl, HB.out⟩
            | succ l =>
              obtain ⟨C, rfl⟩ : ∃ C', C = C' + 1 := ⟨C - 1, by omega⟩
              have hlz : (((l : Int) + 1) == 0) = false := beq_eq_false_iff_ne.mpr (by omega)
              have hl10 : l ≤ 10 := by omega
              have hJ : (if i = 0 then 0 else s + i) ≤ s + i := by split <;> omega
              have HJ : Hid (i = 0 ∧ s = 1 ∨ (if i = 0 then 0 else s + i) = s + i) := Lib.hid (by
                by_cases h0 : i = 0
                · rw [if_pos h0]
                  have := HP.out.one
                  by_cases h1 : s = 1
                  · exact .inl ⟨h0, h1⟩
                  · exact .inr (by omega)
                · rw [if_neg h0]; exact .inr rfl)
              obtain ⟨ab, ao, he2, _, hc0⟩ := HSQ.out 0 (by omega)
              subst he2
              have hc0 : wr.cell? ⟨ab, ao, none⟩ = some (.string (PL.getD (if i = 0 then 0 else s + i) ⟨#[]⟩)) := hc0
              have hbE : ∃ bE : Bool, (PL.getD (if i = 0 then 0 else s + i) ⟨#[]⟩).toList.isEmpty = bE ∧ (bE = true → i = 0 ∧ s = 1 ∧ 1 ≤ l ∧ (if i = 0 then 0 else s + i) = 0) ∧ (bE = false → (if i = 0 then 0 else s + i) = s + i) := by
                rcases HJ.out with ⟨h0, h1⟩ | hj
                · refine ⟨true, ?_, fun _ => ⟨h0, h1, ?_, by rw [if_pos h0]⟩, fun h => by cases h⟩
                  · rw [if_pos h0]
                    exact isEmpty_str _ (size_nil (HP.out.empty 0 (by omega)))
                  · rw [if_pos h0] at hql; have := HP.out.len.1; omega
                · refine ⟨false, ?_, fun h => (by cases h), fun _ => hj⟩
                  have hsi : s + i < PL.length := by rw [hj] at hql; omega
                  rw [hj]
                  exact isEmpty_str_not _ (fun e => good_ne (HP.out.good (s + i) (by omega) hsi).1 (nb_nil e))
              obtain ⟨bE, hq, hbt, hbf⟩ := hbE
              have HBT := Lib.hid hbt; have HBF := Lib.hid hbf
              clear hbt hbf
              generalize PL.getD (if i = 0 then 0 else s + i) ⟨#[]⟩ = p0 at hc0 hq
              go_upto_if 72 with (fail)
              go_cut [7] (fun v wx => ∃ a2 l2 C2, v = .slice (some ⟨ab, a2, none⟩) (l2 + 1) (C2 + 1) ∧ s + i + (l2 + 1) = PL.length ∧ l2 ≤ C2 ∧ Strs wr (some ⟨ab, a2, none⟩) (l2 + 1) (fun z => PL.getD (s + i + z) ⟨#[]⟩) ∧ wx = wr)
              case first =>
                cases bE with
                | true =>
                  obtain ⟨h0, h1, h2, hj⟩ := HBT.out rfl
                  rw [hj] at hql
                  obtain ⟨l2, rfl⟩ : ∃ l2, l = l2 + 1 := ⟨l - 1, by omega⟩
                  obtain ⟨C2, rfl⟩ : ∃ C2, C = C2 + 1 := ⟨C - 1, by omega⟩
                  have HT : Hid (Strs wr (some ⟨ab, ao + 1, none⟩) (l2 + 1) (fun z => PL.getD (s + i + z) ⟨#[]⟩)) := Lib.hid fun z hz => by
                    obtain ⟨b', o', e, h5, h3⟩ := HSQ.out (z + 1) (by omega)
                    cases e
                    refine ⟨ab, ao + 1, rfl, h5, ?_⟩
                    rw [show ao + 1 + z = ao + (z + 1) by omega]
                    have e2 : s + i + z = (if i = 0 then 0 else s + i) + (z + 1) := by rw [hj]; omega
                    show _ = some (Value.string (PL.getD (s + i + z) ⟨#[]⟩))
                    rw [e2]; exact h3
                  have hsum : s + i + (l2 + 1) = PL.length := by omega
                  clear h0 h1 h2 hj
                  go_wp2
                  go_meet
                  case rel => exact ⟨_, l2, C2, rfl, hsum, by omega, HT.out, rfl⟩
                | false =>
                  have hj := HBF.out rfl
                  have HT : Hid (Strs wr (some ⟨ab, ao, none⟩) (l + 1) (fun z => PL.getD (s + i + z) ⟨#[]⟩)) := Lib.hid (by
                    have h := HSQ.out
                    rw [hj] at h; exact h)
                  rw [hj] at hql
                  go_wp2
                  go_meet
                  case rel => exact ⟨_, l, C, rfl, by omega, by omega, HT.out, rfl⟩
              case rest =>
                obtain ⟨a2, l2, C2, rfl, hql2, hlc2, hsq2, hwx⟩ := hcut
                have hwx' := hwx.symm
                clear hwx
                subst hwx'
                have HSQ2 := Lib.hid hsq2
                clear hsq2 HSQ HBT HBF HJ hJ hql hc0 hq hlz
                obtain ⟨b', o', he, _, hc0⟩ := HSQ2.out 0 (by omega)
                cases he
                have hc0 : wr.cell? ⟨ab, a2, none⟩ = some (.string (PL.getD (s + i) ⟨#[]⟩)) := hc0
                obtain ⟨hgp, hdd⟩ := HP.out.good (s + i) (by omega) (by omega)
                have HGP := Lib.hid hgp
                have hqd := beq_str (PL.getD (s + i) ⟨#[]⟩) [42, 42]
                rw [show (nb (PL.getD (s + i) ⟨#[]⟩) == ([42, 42] : List UInt8).map UInt8.toNat) = false from beq_eq_false_iff_ne.mpr (not_dd hdd)] at hqd
                have hps : (PL.getD (s + i) ⟨#[]⟩).size ≤ 10 := (toks_spec hgp).2.2.2
                have HDD := Lib.hid hdd
                have HGY : Hid (G = (MR (PL.getD (s + i) ⟨#[]⟩) x && pmL MR (PL.drop (s + (i + 1))) ((pathL (fun i => f (r0 + i)) rn).drop (i + 1)))) := Lib.hid (by
                  rw [HGX.out, drop_getD PL (s + i) (by omega)]; rfl)
                clear hgp hdd
                generalize PL.getD (s + i) ⟨#[]⟩ = p at hc0 hqd HGP HDD HGY hps
                go_wp2_with fail
                with_reducible refine (Ga.zzContains_any p ⟨#[42, 42]⟩ _ (by omega) (by decide)).mono ?_
                rintro e w2 ⟨rfl, rfl⟩
                rw [HDD.out]
                go_wp2_with fail
                with_reducible refine (match_any p x _ HGP.out HNX.out).mono ?_
                rintro e w2 ⟨rfl, hb2⟩
                have HB2 : Hid (Below w.heap.size w w2) := Lib.hid (HB.out.trans (hb2.mono HB.out.size))
                have HSQ3 : Hid (Strs w2 (some ⟨ab, a2, none⟩) (l2 + 1) (fun z => PL.getD (s + i + z) ⟨#[]⟩)) := Lib.hid (HSQ2.out.below hb2)
                clear hb2
                cases hM : MR p x with
                | false =>
                  have HF0 : Hid (G = false) := Lib.hid (by rw [HGY.out, hM]; rfl)
                  clear hM
                  go_wp2
                  go_ret
                  exact ⟨by rw [HGE.out, HF0.out]; rfl, HB2.out⟩
                | true =>
                  have HG2 : Hid (G = pmL MR (PL.drop (s + (i + 1))) ((pathL (fun i => f (r0 + i)) rn).drop (i + 1))) := Lib.hid (by rw [HGY.out, hM]; rfl)
                  clear hM
                  have HPT2 : Hid (PthAt w2 (fun i => PL.getD i ⟨#[]⟩) PL.length (s + (i + 1)) (.slice (if C2 = 0 then some ⟨ab, a2, none⟩ else some ⟨ab, a2 + 1, none⟩) l2 C2) l2) := Lib.hid (by
                    have h := Strs.tail (f := fun i => PL.getD i ⟨#[]⟩) (q := s + i) HSQ3.out
                    exact tail_at (q := s + i) h (by omega) (by omega))
                  go_wp2
                  go_roundw
                  case rel => exact ⟨i + 1, l2, by omega, by rw [if_neg (by omega)]; exact HPT2.out, by simp, rfl, rfl, by go_num, HG2.out, HB2.out⟩
                  case measure => simp [intOf]; omega
          · obtain rfl : i = rn := by omega
            have hi1 := HRN.out.2
            rw [if_neg (by omega)] at hql
            have hdr := pathL_end (fun z => f (r0 + z)) i i (Nat.le_refl _)
            cases l with
            | zero =>
              have HF1 : Hid (G = true) := Lib.hid (by rw [HGI.out, hdr, List.drop_eq_nil_of_le (by omega)]; rfl)
              go_wp2
              go_ret
              exact ⟨by rw [HGE.out, HF1.out]; simp; omega, HB.out⟩
            | succ l =>
              have HF0 : Hid (G = false) := Lib.hid (by rw [HGI.out, hdr, drop_getD PL (s + i) (by omega)]; rfl)
              have hl0 : (0 : Int) < (l : Int) + 1 := by omega
              go_wp2
              go_ret
              exact ⟨by rw [HGE.out, HF0.out]; rfl, HB.out⟩
end Go.Proofs.YteipeagdflcjjaaDoor.Am
