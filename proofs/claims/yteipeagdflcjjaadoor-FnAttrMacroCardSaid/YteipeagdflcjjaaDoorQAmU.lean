/- spec.globPath, spec.GlobWhole. -/
import Derived.Test.YteipeagdflcjjaaDoorQAmP
import Derived.Test.YteipeagdflcjjaaDoorGlob
import Derived.BigQuiet
import Derived.Test.YteipeagdflcjjaaDoorQPartD
import Derived.Test.YteipeagdflcjjaaDoorQAmO
namespace Go.Proofs.YteipeagdflcjjaaDoor.Am
open Go.RowKit
set_option linter.unusedSimpArgs false
set_option linter.unusedVariables false

theorem pathL_succ (f : Nat → ByteArray) (n : Nat) : pathL f (n + 1) = f 0 :: pathL (fun i => f (i + 1)) n := by
  unfold pathL
  rw [List.range_succ_eq_map, List.map_cons, List.map_map]; rfl
theorem name_part {p x : ByteArray} (hp : GoodPart p) (hx : x.size ≤ 1000) (w : World) : Calls Tryd.prog 15 #[.string p, .string x] w (QB (MR p x) w) := by
  obtain ⟨h1, h2, _, h4⟩ := toks_spec hp
  exact globName_any (p.size + x.size + 1) (toksOf p) p x w (Nat.lt_succ_self _) h1 (fun u hu => good_gR (h2 u hu)) (by omega) hx
theorem strs_tail {w : World} {b o n : Nat} {f : Nat → ByteArray} (h : Strs w (some ⟨b, o, none⟩) (n + 1) f) : Strs w (some ⟨b, o + 1, none⟩) n (fun i => f (i + 1)) := fun i hi => by
  obtain ⟨b', o', e, h1, h2⟩ := h (i + 1) (by omega)
  injection e with e
  injection e with e1 e2
  subst e1; subst e2
  exact ⟨b, o + 1, rfl, h1, by rw [show o + 1 + i = o + (i + 1) by omega]; exact h2⟩
theorem strs_nil {w : World} {A : Option Addr} {f : Nat → ByteArray} : Strs w A 0 f := fun i hi => absurd hi (Nat.not_lt_zero _)

set_option maxRecDepth 100000 in
set_option maxHeartbeats 4000000 in
theorem globPath_any (n : Nat) : ∀ (m c e : Nat) (A B : Option Addr) (f g : Nat → ByteArray) (w : World), n ≤ c → m ≤ e → n ≤ 1000 → m ≤ 1000 → Strs w A n f → Strs w B m g → (∀ i, i < n → GoodPart (f i) ∧ nb (f i) ≠ [42, 42]) → (∀ i, i < m → (g i).size ≤ 1000) →
    Calls Tryd.prog 45 #[.slice A n c, .slice B m e] w (QB (pmL MR (pathL f n) (pathL g m)) w) := by
  induction n with
  | zero =>
    intro m c e A B f g w hc he hn hm hf hg hp hs
    go_enter Tryd.func45, Tryd.ntmps45
    by_cases h0 : m = 0
    · subst h0
      go_wp2
      go_ret
      exact ⟨rfl, 0, rfl⟩
    · have q : ((m : Int) == 0) = false := beq_eq_false_iff_ne.mpr (by omega)
      obtain ⟨m', rfl⟩ : ∃ m', m = m' + 1 := ⟨m - 1, by omega⟩
      go_wp2
      go_ret
      refine ⟨?_, 0, rfl⟩
      rw [pathL_succ]; first | rfl | (simp [pmL, pathL])
  | succ n ih =>
    intro m c e A B f g w hc he hn hm hf hg hp hs
    obtain ⟨b1, o1, hA, _, k1⟩ := hf 0 (by omega)
    subst hA
    have hq := beq_str (f 0) [42, 42]
    have hq2 : (nb (f 0) == ([42, 42] : List UInt8).map UInt8.toNat) = false := by
      rw [beq_eq_false_iff_ne]
      exact (hp 0 (by omega)).2
    rw [hq2] at hq
    clear hq2
    have k1' : w.cell? ⟨b1, o1, none⟩ = some (.string (f 0)) := k1
    have h0n : (0 : Int) < (n : Int) + 1 := by omega
    by_cases h0 : m = 0
    · subst h0
      have HR : Hid (pmL MR (pathL f (n + 1)) (pathL g 0) = false) := Lib.hid (by rw [pathL_succ]; rfl)
      clear ih hf hg hp hs k1
      go_enter Tryd.func45, Tryd.ntmps45
      go_upto_region 12 with (fail)
      go_quiet (fail)
      go_wp2
      go_ret
      exact ⟨by rw [HR.out]; rfl, _, rfl⟩
    · obtain ⟨m', rfl⟩ : ∃ m', m = m' + 1 := ⟨m - 1, by omega⟩
      clear h0
      obtain ⟨b2, o2, hB, _, k2⟩ := hg 0 (by omega)
      subst hB
      have k2' : w.cell? ⟨b2, o2, none⟩ = some (.string (g 0)) := k2
      have HN := Lib.hid (name_part (hp 0 (by omega)).1 (hs 0 (by omega)))
      have HI : Hid (∀ A2 B2 k, (A2 = some ⟨b1, o1, none⟩ → n = 0) → (B2 = some ⟨b2, o2, none⟩ → m' = 0) → (A2 = some ⟨b1, o1, none⟩ ∨ A2 = some ⟨b1, o1 + 1, none⟩) → (B2 = some ⟨b2, o2, none⟩ ∨ B2 = some ⟨b2, o2 + 1, none⟩) → Calls Tryd.prog 45 #[.slice A2 n (c - 1), .slice B2 m' (e - 1)] (w.drewN k) (QB (pmL MR (pathL (fun i => f (i + 1)) n) (pathL (fun i => g (i + 1)) m')) (w.drewN k))) := Lib.hid fun A2 B2 k hA1 hB1 hA2 hB2 => by
        refine ih m' (c - 1) (e - 1) A2 B2 _ _ _ (by omega) (by omega) (by omega) (by omega) ?_ ?_ (fun i hi => hp (i + 1) (by omega)) (fun i hi => hs (i + 1) (by omega))
        · rcases hA2 with h | h
          · rw [hA1 h]; exact strs_nil
          · subst h; exact (strs_tail hf).below (below_drewN (Below.refl _ _) k)
        · rcases hB2 with h | h
          · rw [hB1 h]; exact strs_nil
          · subst h; exact (strs_tail hg).below (below_drewN (Below.refl _ _) k)
      have HR : Hid (pmL MR (pathL f (n + 1)) (pathL g (m' + 1)) = (MR (f 0) (g 0) && pmL MR (pathL (fun i => f (i + 1)) n) (pathL (fun i => g (i + 1)) m'))) := Lib.hid (by rw [pathL_succ, pathL_succ]; rfl)
      clear ih hf hg hp hs k1 k2
      have h0m : (0 : Int) < (m' : Int) + 1 := by omega
      have h1n : (1 : Int) ≤ (n : Int) + 1 := by omega
      have h1m : (1 : Int) ≤ (m' : Int) + 1 := by omega
      generalize pmL MR (pathL (fun i => f (i + 1)) n) (pathL (fun i => g (i + 1)) m') = r2 at HI HR
      generalize hr1 : MR (f 0) (g 0) = r1 at HN HR
      clear hr1
      generalize f 0 = p at *
      generalize g 0 = x at *
      go_enter Tryd.func45, Tryd.ntmps45
      go_upto_region 12 with (fail)
      cases r1 with
      | false =>
        go_quiet (first | (go_at_call 15; refine Calls.quiet_of (HN.out _)))
        go_wp2
        go_ret
        exact ⟨by rw [HR.out]; rfl, _, rfl⟩
      | true =>
        by_cases hc1 : c = 1
        · have hn0 : n = 0 := by omega
          subst hn0; subst hc1
          by_cases he1 : e = 1
          · have hm0 : m' = 0 := by omega
            subst hm0; subst he1
            go_quiet (first | (go_at_call 15; refine Calls.quiet_of (HN.out _)) | (go_at_call 45; refine Calls.quiet_of (HI.out _ _ _ (fun _ => rfl) (fun _ => rfl) (.inl rfl) (.inl rfl))))
            go_wp2
            go_ret
            exact ⟨by rw [HR.out]; rfl, _, rfl⟩
          · have he2 : ¬ e - 1 = 0 := by omega
            go_quiet (first | (go_at_call 15; refine Calls.quiet_of (HN.out _)) | (go_at_call 45; refine Calls.quiet_of (HI.out _ _ _ (fun _ => rfl) (fun h => (by injection h with h; injection h with _ h; omega)) (.inl rfl) (.inr rfl))))
            go_wp2
            go_ret
            exact ⟨by rw [HR.out]; rfl, _, rfl⟩
        · by_cases he1 : e = 1
          · have hm0 : m' = 0 := by omega
            subst hm0; subst he1
            go_quiet (first | (go_at_call 15; refine Calls.quiet_of (HN.out _)) | (go_at_call 45; refine Calls.quiet_of (HI.out _ _ _ (fun h => (by injection h with h; injection h with _ h; omega)) (fun _ => rfl) (.inr rfl) (.inl rfl))))
            go_wp2
            go_ret
            exact ⟨by rw [HR.out]; rfl, _, rfl⟩
          · go_quiet (first | (go_at_call 15; refine Calls.quiet_of (HN.out _)) | (go_at_call 45; refine Calls.quiet_of (HI.out _ _ _ (fun h => (by injection h with h; injection h with _ h; omega)) (fun h => (by injection h with h; injection h with _ h; omega)) (.inr rfl) (.inr rfl))))
            go_wp2
            go_ret
            exact ⟨by rw [HR.out]; rfl, _, rfl⟩

/-- What GlobWhole answers. -/
noncomputable def hitW (n : Nat) (f : Nat → ByteArray) (ahead : Bool) (dn : Nat) (d : Nat → ByteArray) (pn : Nat) (g : Nat → ByteArray) : Bool :=
  decide (dn < pn) && ((List.range dn).all fun j => (g j).toList == (d j).toList) && (if n = 1 ∧ ahead = false then MR (f 0) (g (pn - 1)) else pmL MR (pathL f n) ((pathL g pn).drop dn))
theorem pathL_from (g : Nat → ByteArray) (n k : Nat) (h : k ≤ n) : (pathL g n).drop k = pathL (fun i => g (k + i)) (n - k) := by
  refine List.ext_getElem? fun i => ?_
  rw [List.getElem?_drop]
  unfold pathL
  rw [List.getElem?_map, List.getElem?_map]
  by_cases hi : k + i < n
  · rw [List.getElem?_range hi, List.getElem?_range (by omega)]; rfl
  · rw [List.getElem?_eq_none (by simp; omega), List.getElem?_eq_none (by simp; omega)]; rfl
set_option maxRecDepth 100000 in
set_option maxHeartbeats 4000000 in
theorem globWhole_any (A D G : Option Addr) (n c dn dc pn pc : Nat) (f d g : Nat → ByteArray) (b1 ahead b3 : Bool) (w : World) (hnc : 1 ≤ n ∧ n ≤ c) (hn4 : n ≤ 100) (hdn : dn ≤ 100) (hpn : 1 ≤ pn ∧ pn ≤ 100) (hpc : pn ≤ pc)
    (hf : Strs w A n f) (hd : Strs w D dn d) (hg : Strs w G pn g) (hp : ∀ i, i < n → GoodPart (f i) ∧ nb (f i) ≠ [42, 42]) (hs : ∀ i, i < pn → (g i).size ≤ 1000) :
    Calls Tryd.prog 31 #[.agg #[.slice A n c, .bool b1, .bool ahead, .bool b3], .slice D dn dc, .slice G pn pc] w (HitPost (hitW n f ahead dn d pn g) w) := by
  have HF := Lib.hid hf; have HD := Lib.hid hd; have HG := Lib.hid hg; have HP := Lib.hid hp; have HS := Lib.hid hs
  clear hf hd hg hp hs
  obtain ⟨hpn1, hpn2⟩ := hpn
  obtain ⟨hn1, hnc⟩ := hnc
  go_enter Tryd.func31, Tryd.ntmps31
  go_upto_region 1 with (fail)
  generalize hW : w.alloc _ = W
  have hW2 : PBox w W A n c b1 ahead b3 := by subst hW; exact PBox.new w A n c b1 ahead b3
  clear hW
  have HW := Lib.hid hW2
  clear hW2
  have HG2 := Lib.hid (HG.out.below HW.out.bel); have HD2 := Lib.hid (HD.out.below HW.out.bel); have HF2 := Lib.hid (HF.out.below HW.out.bel)
  by_cases hle : pn ≤ dn
  · have hle' : (pn : Int) ≤ dn := by omega
    have HH : Hid (hitW n f ahead dn d pn g = false) := Lib.hid (by unfold hitW; rw [decide_eq_false (by omega)]; rfl)
    clear hle
    go_wp2
    go_ret
    exact ⟨by rw [HH.out]; rfl, HW.out.bel⟩
  have hle' : ¬ (pn : Int) ≤ dn := by omega
  go_wp2
  go_loop [16] (fun i => ∃ k : Nat, k ≤ dn ∧ i = .int .i64 k ∧ ∀ j, j < k → ((g j).toList == (d j).toList) = true) (fun i => dn - (intOf i).toNat)
  case atStart => exact ⟨0, Nat.zero_le _, rfl, fun j h => absurd h (Nat.not_lt_zero _)⟩
  case round =>
    obtain ⟨k, hk, rfl, hall⟩ := hrel
    have HALL := Lib.hid hall; clear hall
    by_cases hlt : k < dn
    · obtain ⟨b1, o1, rfl, _, hc1⟩ := HG2.out.at k (by omega)
      obtain ⟨b2, o2, rfl, _, hc2⟩ := HD2.out.at k hlt
      cases hq : ((g k).toList == (d k).toList) with
      | true =>
        have HQ := Lib.hid hq
        have hq2 : ((g k).toList != (d k).toList) = false := by rw [bne, hq]; rfl
        go_wp2
        go_round
        case rel =>
          refine ⟨k + 1, by omega, by go_num, fun j hj => ?_⟩
          by_cases e : j = k
          · subst e; exact HQ.out
          · exact HALL.out j (by omega)
        case measure => simp [intOf]; omega
      | false =>
        have HH : Hid (hitW n f ahead dn d pn g = false) := Lib.hid (by unfold hitW; rw [all_no hlt hq, Bool.and_false]; rfl)
        have hq2 : ((g k).toList != (d k).toList) = true := by rw [bne, hq]; rfl
        go_wp2
        go_ret
        exact ⟨by rw [HH.out]; rfl, HW.out.bel⟩
    · obtain rfl : k = dn := by omega
      have HH : Hid (hitW n f ahead k d pn g = (if n = 1 ∧ ahead = false then MR (f 0) (g (pn - 1)) else pmL MR (pathL f n) (pathL (fun i => g (k + i)) (pn - k)))) := Lib.hid (by
        unfold hitW
        rw [decide_eq_true (by omega), all_yes HALL.out, pathL_from g pn k (by omega)]; simp)
      clear HALL hlt
      obtain ⟨d0, d1, d2, d3⟩ := HW.out.cells (Below.refl _ _)
      by_cases h1 : n = 1 ∧ ahead = false
      · obtain ⟨h1, rfl⟩ := h1
        subst h1
        rw [if_pos ⟨rfl, rfl⟩] at HH
        obtain ⟨b1, o1, rfl, _, hc1⟩ := HG2.out.at (pn - 1) (by omega)
        obtain ⟨b2, o2, rfl, _, hc2⟩ := HF2.out.at 0 (by omega)
        have hc2' : W.cell? ⟨b2, o2, none⟩ = some (.string (f 0)) := hc2
        have HN := Lib.hid (name_part (HP.out 0 (by omega)).1 (HS.out (pn - 1) (by omega)))
        have y1 : (0 : Int) ≤ (pn : Int) - 1 := by omega
        have y2 : (pn : Int) - 1 < pn := by omega
        clear hc2
        go_upto_region 10 with (fail)
        generalize MR (f 0) (g (pn - 1)) = r at HN HH
        go_quiet (first | (go_at_call 15; refine Calls.quiet_of (HN.out _)))
        go_wp2
        go_ret
        exact ⟨by rw [HH.out]; rfl, below_drewN HW.out.bel _⟩
      · rw [if_neg h1] at HH
        obtain ⟨b1, o1, rfl, _, hc1⟩ := HG2.out.at k (by omega)
        have HGD : Hid (Strs W (some ⟨b1, o1 + k, none⟩) (pn - k) (fun i => g (k + i))) := Lib.hid fun i hi => by
          obtain ⟨b', o', e, h2, h3⟩ := HG2.out (k + i) (by omega)
          cases e
          exact ⟨b1, o1 + k, rfl, h2, by rw [Nat.add_assoc]; exact h3⟩
        have HQ : Hid (∀ q, Calls Tryd.prog 45 #[.slice A n c, .slice (some ⟨b1, o1 + k, none⟩) (pn - k) (pc - k)] (W.drewN q) (QB (pmL MR (pathL f n) (pathL (fun i => g (k + i)) (pn - k))) (W.drewN q))) := Lib.hid fun q =>
          globPath_any n (pn - k) c (pc - k) _ _ f _ _ (by omega) (by omega) (by omega) (by omega) (HF2.out.below (below_drewN (Below.refl _ _) q)) (HGD.out.below (below_drewN (Below.refl _ _) q)) HP.out (fun i hi => HS.out (k + i) (by omega))
        have hpk : ¬ pc = k := by omega
        have hkp : (k : Int) ≤ pn := by omega
        generalize pmL MR (pathL f n) (pathL (fun i => g (k + i)) (pn - k)) = r at HQ HH
        clear hc1
        by_cases hn1' : n = 1
        · have ha : ahead = true := by cases ahead with
            | true => rfl
            | false => exact absurd ⟨hn1', rfl⟩ h1
          subst hn1'; subst ha
          clear h1
          go_upto_region 11 with (fail)
          go_quiet (first | (go_at_call 45; refine Calls.quiet_of (HQ.out _)))
          go_wp2
          go_ret
          exact ⟨by rw [HH.out]; rfl, below_drewN HW.out.bel _⟩
        · have hq : ((n : Int) == 1) = false := beq_eq_false_iff_ne.mpr (by omega)
          clear h1 hn1'
          go_upto_region 11 with (fail)
          go_quiet (first | (go_at_call 45; refine Calls.quiet_of (HQ.out _)))
          go_wp2
          go_ret
          exact ⟨by rw [HH.out]; rfl, below_drewN HW.out.bel _⟩
end Go.Proofs.YteipeagdflcjjaaDoor.Am
/- isGlob, isGlobPath once more (printed by gen_globd.py out of XGlob). -/
namespace Go.Proofs.YteipeagdflcjjaaDoor.Am
open Go.RowKit
set_option linter.unusedSimpArgs false
set_option linter.unusedVariables false

def PartDk (n : Nat) (s : ByteArray) : Prop := (GoodPart s ∧ NoDD s) ∨ (nb s = [42, 42] ∧ n ≠ 1)
def GlobPostD (n : Nat) (f : Nat → ByteArray) (w : World) (e : Ending) (w' : World) : Prop :=
  ∃ B : Bool, e = .returned (.bool B) ∧ (B = true → 1 ≤ n ∧ n ≤ 4 ∧ ∀ i, i < n → PartDk n (f i)) ∧ Below w.heap.size w w'
def PathPost0 (n : Nat) (f : Nat → ByteArray) (w : World) (e : Ending) (w' : World) : Prop :=
  ∃ B : Bool, e = .returned (.bool B) ∧ (B = true → n ≤ 5 ∧ ∀ i, i < n → NameOk (f i)) ∧ w = w'

set_option maxRecDepth 100000 in
set_option maxHeartbeats 4000000 in
theorem isGlobD_any (A : Option Addr) (n c : Nat) (f : Nat → ByteArray) (b1 b2 b3 : Bool) (w : World) (hn : n ≤ 2147483647) (h : Strs w A n f) (hsz : ∀ i, i < n → (f i).size ≤ 2147483647) :
    Calls Tryd.prog 21 #[.agg #[.slice A n c, .bool b1, .bool b2, .bool b3]] w (GlobPostD n f w) := by
  have H := Lib.hid h; clear h
  have HSZ := Lib.hid hsz; clear hsz
  go_enter Tryd.func21, Tryd.ntmps21
  go_upto_region 1 with (fail)
  generalize hW : w.alloc _ = W
  have hW2 : PBox w W A n c b1 b2 b3 := by subst hW; exact PBox.new w A n c b1 b2 b3
  clear hW
  have HW := Lib.hid hW2
  obtain ⟨d0, _, _, _⟩ := hW2.cells (Below.refl _ _)
  clear hW2
  go_wp2
  clear d0
  go_loopw [8] (fun i wr => ∃ k : Nat, k ≤ n ∧ i = .int .i64 k ∧ (∀ j, j < k → PartDk n (f j)) ∧ Below W.heap.size W wr) (fun i _ => n - (intOf i).toNat)
  case atStart => exact ⟨0, Nat.zero_le _, rfl, fun j h => by omega, Below.refl _ _⟩
  case round =>
    obtain ⟨k, hk, rfl, hall, hbel⟩ := hrel
    have HA := Lib.hid hall; clear hall
    have HB := Lib.hid hbel; clear hbel
    have H1 := Lib.hid (H.out.below (HW.out.below HB.out))
    by_cases hlt : k < n
    · obtain ⟨b, off, hAe, _, hcell⟩ := H1.out.at k hlt
      have HPOK : Hid (PartDk n (f k) → ∀ j, j < k + 1 → PartDk n (f j)) := Lib.hid fun h j hj => by
        by_cases e : j = k
        · subst e; exact h
        · exact HA.out j (by omega)
      have hfs := HSZ.out k hlt
      generalize f k = s at hcell HPOK hfs
      subst hAe
      go_wp2_with fail
      with_reducible refine (isGlobPartD_any s _ hfs).mono ?_
      rintro e w' ⟨B, rfl, hB, hb'⟩
      have HB2 := Lib.hid (HB.out.trans (hb'.mono HB.out.size)); clear hb'
      have HBB := Lib.hid hB; clear hB
      clear hcell
      obtain ⟨d0, _, _, _⟩ := HW.out.cells HB2.out
      have H2 := Lib.hid (H.out.below (HW.out.below HB2.out))
      cases B with
      | false =>
        go_wp2
        go_ret
        exact ⟨false, rfl, fun h => (by cases h), HW.out.below HB2.out⟩
      | true =>
        have hq := beq_str s [42, 42]
        have hq1 := beq_str s [46]
        have hq2 := beq_str s [46, 46]
        have hnn : ∀ l : List UInt8, ∃ b, (nb s == l.map UInt8.toNat) = b := fun l => ⟨_, rfl⟩
        obtain ⟨Q1, hQ1⟩ := hnn [46]
        obtain ⟨Q2, hQ2⟩ := hnn [46, 46]
        rw [hQ1] at hq1
        rw [hQ2] at hq2
        clear hQ1 hQ2 hnn
        cases hQ : (nb s == ([42, 42] : List UInt8).map UInt8.toNat) with
        | false =>
          rw [hQ] at hq
          have HN : Hid (PartDk n s) := Lib.hid (.inl ((HBB.out rfl).resolve_left (fun e => by rw [e] at hQ; cases hQ)))
          clear hQ
          cases Q1 with
          | true =>
            go_wp2
            go_ret
            exact ⟨false, rfl, fun h => (by cases h), HW.out.below HB2.out⟩
          | false =>
            cases Q2 with
            | true =>
              go_wp2
              go_ret
              exact ⟨false, rfl, fun h => (by cases h), HW.out.below HB2.out⟩
            | false =>
              go_wp2
              go_roundw
              case rel => exact ⟨k + 1, by omega, by go_num, HPOK.out HN.out, HB2.out⟩
              case measure => simp [intOf] <;> omega
        | true =>
          rw [hQ] at hq
          have HS2 := Lib.hid (beq_iff_eq.mp hQ)
          clear hQ
          by_cases hn1 : n = 1
          · have q : ((n : Int) == 1) = true := beq_iff_eq.mpr (by omega)
            go_wp2
            try any_goals (exfalso; omega)
            go_ret
            exact ⟨false, rfl, fun h => (by cases h), HW.out.below HB2.out⟩
          · have q : ((n : Int) == 1) = false := beq_eq_false_iff_ne.mpr (by omega)
            have HN : Hid (PartDk n s) := Lib.hid (.inr ⟨HS2.out, hn1⟩)
            by_cases hk0 : k = 0
            · subst hk0
              cases Q1 <;> cases Q2
              all_goals (go_wp2; first | go_ret | go_roundw)
              all_goals first
                | exact ⟨false, rfl, fun h => (by cases h), HW.out.below HB2.out⟩
                | exact ⟨1, by omega, by first | rfl | go_num, HPOK.out HN.out, HB2.out⟩
                | (simp [intOf] <;> omega)
            · obtain ⟨j, rfl⟩ : ∃ j, k = j + 1 := ⟨k - 1, by omega⟩
              have hpos : (0 : Int) < (j : Int) + 1 := by omega
              obtain ⟨b', off', hAe, _, hcell2⟩ := H2.out.at j (by omega)
              obtain ⟨rfl, rfl⟩ : b = b' ∧ off = off' := by cases hAe; exact ⟨rfl, rfl⟩
              clear hAe
              have hqj := beq_str (f j) [42, 42]
              generalize f j = sj at hcell2 hqj
              generalize (nb sj == ([42, 42] : List UInt8).map UInt8.toNat) = Qj at hqj
              cases Qj
              · cases Q1 <;> cases Q2
                all_goals (go_wp2; first | go_ret | go_roundw)
                all_goals first
                  | exact ⟨false, rfl, fun h => (by cases h), HW.out.below HB2.out⟩
                  | exact ⟨j + 2, by omega, by go_num, HPOK.out HN.out, HB2.out⟩
                  | (simp [intOf] <;> omega)
              · go_wp2
                go_ret
                exact ⟨false, rfl, fun h => (by cases h), HW.out.below HB2.out⟩
    · obtain rfl : k = n := by omega
      obtain ⟨d0, _, _, _⟩ := HW.out.cells HB.out
      by_cases h1 : (1 : Int) ≤ k
      · by_cases h4 : (k : Int) ≤ 4
        · go_wp2
          try any_goals (exfalso; omega)
          go_ret
          exact ⟨true, rfl, fun _ => ⟨by omega, by omega, HA.out⟩, HW.out.below HB.out⟩
        · have h4' : (4 : Int) < k := by omega
          go_wp2
          try any_goals (exfalso; omega)
          go_ret
          exact ⟨false, rfl, fun h => (by cases h), HW.out.below HB.out⟩
      · have h1' : (k : Int) < 1 := by omega
        go_wp2
        try any_goals (exfalso; omega)
        go_ret
        exact ⟨false, rfl, fun h => (by cases h), HW.out.below HB.out⟩

set_option maxRecDepth 100000 in
set_option maxHeartbeats 4000000 in
theorem isGlobPath0_any (A : Option Addr) (n c : Nat) (f : Nat → ByteArray) (w : World) (hn : n ≤ 2147483647) (h : Strs w A n f) (hsz : ∀ i, i < n → (f i).size ≤ 2147483647) :
    Calls Tryd.prog 12 #[.slice A n c, .int .i64 0] w (PathPost0 n f w) := by
  have H := Lib.hid h; clear h
  have HSZ := Lib.hid hsz; clear hsz
  go_enter Tryd.func12, Tryd.ntmps12
  go_wp2
  go_loop [10] (fun i => ∃ k : Nat, k ≤ n ∧ i = .int .i64 k ∧ ∀ j, j < k → NameOk (f j)) (fun i => n - (intOf i).toNat)
  case atStart => exact ⟨0, Nat.zero_le _, rfl, fun j h => by omega⟩
  case round =>
    obtain ⟨k, hk, rfl, hall⟩ := hrel
    have HA := Lib.hid hall; clear hall
    by_cases hlt : k < n
    · obtain ⟨b, off, hAe, _, hcell⟩ := H.out.at k hlt
      have HNOK : Hid (NameOk (f k) → ∀ j, j < k + 1 → NameOk (f j)) := Lib.hid fun h j hj => by
        by_cases e : j = k
        · subst e; exact h
        · exact HA.out j (by omega)
      have hfs := HSZ.out k hlt
      generalize f k = s at hcell HNOK hfs
      subst hAe
      go_wp2
      clear hcell
      go_loop [16] (fun i => ∃ m : Nat, m ≤ s.size ∧ i = .int .i64 m ∧ ∀ j, j < m → bx s j < 128 ∧ bx s j ≠ 47) (fun i => s.size - (intOf i).toNat)
      case atStart => exact ⟨0, Nat.zero_le _, rfl, fun j h => by omega⟩
      case round =>
        obtain ⟨m, hm, rfl, hby⟩ := hrel
        have HBY := Lib.hid hby; clear hby
        by_cases hml : m < s.size
        · have hb := bx_get s m hml
          generalize hcc : bx s m = x at hb
          have HMORE : Hid (x < 128 ∧ x ≠ 47 → ∀ j, j < m + 1 → bx s j < 128 ∧ bx s j ≠ 47) := Lib.hid fun h j hj => by
            by_cases e : j = m
            · subst e; rw [hcc]; exact h
            · exact HBY.out j (by omega)
          clear hcc
          by_cases h97 : (x : Int) < 97
          · by_cases h46 : x = 46
            · have q : ((x : Int) != 46) = false := by simp [h46]
              have HN := Lib.hid (HMORE.out (by omega))
              go_wp2
              try any_goals (exfalso; omega)
              go_round
              case rel => exact ⟨m + 1, by omega, by go_num, HN.out⟩
              case measure => simp [intOf] <;> omega
            · have q : ((x : Int) != 46) = true := by simp; omega
              by_cases h42 : x = 42
              · have q2 : ((x : Int) != 42) = false := by simp [h42]
                have HN := Lib.hid (HMORE.out (by omega))
                go_wp2
                try any_goals (exfalso; omega)
                go_round
                case rel => exact ⟨m + 1, by omega, by go_num, HN.out⟩
                case measure => simp [intOf] <;> omega
              · have q2 : ((x : Int) != 42) = true := by simp; omega
                by_cases h63 : x = 63
                · have q3 : ((x : Int) != 63) = false := by simp [h63]
                  have HN := Lib.hid (HMORE.out (by omega))
                  go_wp2
                  try any_goals (exfalso; omega)
                  go_round
                  case rel => exact ⟨m + 1, by omega, by go_num, HN.out⟩
                  case measure => simp [intOf] <;> omega
                · have q3 : ((x : Int) != 63) = true := by simp; omega
                  go_wp2
                  try any_goals (exfalso; omega)
                  go_ret
                  exact ⟨false, rfl, fun h => (by cases h), rfl⟩
          · have h97' : (97 : Int) ≤ x := by omega
            by_cases h99 : (x : Int) ≤ 99
            · have HN := Lib.hid (HMORE.out (by omega))
              go_wp2
              try any_goals (exfalso; omega)
              go_round
              case rel => exact ⟨m + 1, by omega, by go_num, HN.out⟩
              case measure => simp [intOf] <;> omega
            · have h99' : (99 : Int) < x := by omega
              have q : ((x : Int) != 46) = true := by simp; omega
              have q2 : ((x : Int) != 42) = true := by simp; omega
              have q3 : ((x : Int) != 63) = true := by simp; omega
              go_wp2
              try any_goals (exfalso; omega)
              go_ret
              exact ⟨false, rfl, fun h => (by cases h), rfl⟩
        · obtain rfl : m = s.size := by omega
          by_cases h1 : (s.size : Int) < 1
          · go_wp2
            try any_goals (exfalso; omega)
            go_ret
            exact ⟨false, rfl, fun h => (by cases h), rfl⟩
          · have h1' : (1 : Int) ≤ s.size := by omega
            by_cases h6 : (6 : Int) < s.size
            · go_wp2
              try any_goals (exfalso; omega)
              go_ret
              exact ⟨false, rfl, fun h => (by cases h), rfl⟩
            · have h6' : (s.size : Int) ≤ 6 := by omega
              have HN := Lib.hid (HNOK.out ⟨nm_of HBY.out (by omega), by omega, by omega⟩)
              have hq1 := beq_str s [46]
              have hq2 := beq_str s [46, 46]
              generalize (nb s == ([46] : List UInt8).map UInt8.toNat) = Q1 at hq1
              generalize (nb s == ([46, 46] : List UInt8).map UInt8.toNat) = Q2 at hq2
              cases Q1
              · cases Q2
                · go_wp2
                  try any_goals (exfalso; omega)
                  go_round
                  case rel => exact ⟨k + 1, by omega, by go_num, HN.out⟩
                  case measure => simp [intOf] <;> omega
                · go_wp2
                  try any_goals (exfalso; omega)
                  go_ret
                  exact ⟨false, rfl, fun h => (by cases h), rfl⟩
              · go_wp2
                try any_goals (exfalso; omega)
                go_ret
                exact ⟨false, rfl, fun h => (by cases h), rfl⟩
    · obtain rfl : k = n := by omega
      have h1 : (0 : Int) ≤ k := by omega
      by_cases h4 : (k : Int) ≤ 5
      · go_wp2
        try any_goals (exfalso; omega)
        go_ret
        exact ⟨true, rfl, fun _ => ⟨by omega, HA.out⟩, rfl⟩
      · have h4' : (5 : Int) < k := by omega
        go_wp2
        try any_goals (exfalso; omega)
        go_ret
        exact ⟨false, rfl, fun h => (by cases h), rfl⟩

end Go.Proofs.YteipeagdflcjjaaDoor.Am
/- AttrMatch of one line: a pattern of several parts, one attribute. -/
namespace Go.Proofs.YteipeagdflcjjaaDoor.Am
open Go.RowKit
set_option linter.unusedSimpArgs false
set_option linter.unusedVariables false

/-! ## Lines whose signs lie from 32 to 122 -/
theorem lines_atR {text : ByteArray} {n : Nat → ByteArray} {a : Nat → AttrT} {q : Nat} (ht : nb text = txt n a q) (hr : ∀ i, i < q → ∀ c ∈ lineN (n i) (a i), 32 ≤ c ∧ c ≤ 122) :
    LinesAt (fun i => bx text i) text.size q (fun i => (txt n a i).length) (fun i => (lineN (n i) (a i)).length) := by
  refine ⟨rfl, by rw [← nb_length, ht], fun i hi => ?_⟩
  obtain ⟨rest, hs⟩ := txt_split n a i q hi
  have hx : nb text = txt n a i ++ ((lineN (n i) (a i) ++ [10]) ++ rest) := by rw [ht, hs]
  refine ⟨⟨?_, fun j hj => nb_lt (bx_mem hj), fun j hj => ?_, ?_⟩, ?_⟩
  · have := (bx_at hx (lineN (n i) (a i)).length (by simp)).2
    exact this
  · have h1 := (bx_at hx j (by rw [List.length_append]; simp; omega)).1
    have h2 : (lineN (n i) (a i) ++ [10]).getD j 0 ∈ lineN (n i) (a i) := by
      rw [List.getD_eq_getElem?_getD, List.getElem?_append_left hj, List.getElem?_eq_getElem hj]
      exact List.getElem_mem hj
    have := hr i hi _ h2
    rw [h1]; omega
  · have h1 := (bx_at hx (lineN (n i) (a i)).length (by simp)).1
    rw [h1, List.getD_eq_getElem?_getD, List.getElem?_append_right (Nat.le_refl _), Nat.sub_self]; rfl
  · show (txt n a i ++ (lineN (n i) (a i) ++ [10])).length = _
    rw [List.length_append, List.length_append]; simp; omega
theorem line_textR {text : ByteArray} {n : Nat → ByteArray} {a : Nat → AttrT} {q i : Nat} (ht : nb text = txt n a q) (hi : i < q) (hr : ∀ c ∈ lineN (n i) (a i), 32 ≤ c ∧ c ≤ 122) :
    nb (lineT (fun i => bx text i) (txt n a i).length (lineN (n i) (a i)).length) = lineN (n i) (a i) := by
  obtain ⟨rest, hs⟩ := txt_split n a i q hi
  have hx : nb text = txt n a i ++ (lineN (n i) (a i) ++ ([10] ++ rest)) := by rw [ht, hs]; simp
  unfold lineT
  have hl : (List.range (lineN (n i) (a i)).length).map (fun j => bx text ((txt n a i).length + j)) = lineN (n i) (a i) := by
    refine List.ext_getElem? fun j => ?_
    rw [List.getElem?_map]
    by_cases hj : j < (lineN (n i) (a i)).length
    · rw [List.getElem?_range hj, List.getElem?_eq_getElem hj]
      have := (bx_at hx j hj).1
      rw [List.getD_eq_getElem?_getD, List.getElem?_eq_getElem hj] at this
      show some (bx text ((txt n a i).length + j)) = some _
      rw [this]; rfl
    · rw [List.getElem?_eq_none (by simp; omega), List.getElem?_eq_none (by omega)]; rfl
  rw [hl]
  exact nb_bs _ fun c hc => by have := hr c hc; omega

/-! ## A pattern of several parts -/
structure GoodPat (n : Nat) (f : Nat → ByteArray) : Prop where
  one : 1 ≤ n
  four : n ≤ 4
  part : ∀ i, i < n → GoodPart (f i) ∧ hasSub (f i) ⟨#[42, 42]⟩ = false
theorem GoodPat.ok {n : Nat} {f : Nat → ByteArray} (h : GoodPat n f) : ∀ i, i < n → PartOk n (f i) := fun i hi => .inl (h.part i hi).1
def patPL (ahead : Bool) (n : Nat) (f : Nat → ByteArray) : List ByteArray := if ahead = true then ⟨#[]⟩ :: pathL f n else pathL f n
def patS (ahead : Bool) : Nat := if ahead = true then 1 else 0
theorem pathL_getD (f : Nat → ByteArray) (n j : Nat) (h : j < n) : (pathL f n).getD j ⟨#[]⟩ = f j := by
  rw [List.getD_eq_getElem?_getD, pathL_at f n j h]; rfl
theorem pat_parts {n : Nat} {f : Nat → ByteArray} (h : GoodPat n f) (ahead : Bool) : Parts (patPL ahead n f) (patS ahead) := by
  have h4 := h.four; have h1 := h.one
  cases ahead with
  | true =>
    refine ⟨⟨?_, ?_⟩, Nat.le_refl 1, fun j hj => ?_, fun j h2 h3 => ?_⟩
    · show 1 < (⟨#[]⟩ :: pathL f n).length
      rw [List.length_cons, pathL_len]; omega
    · show (⟨#[]⟩ :: pathL f n).length ≤ 10
      rw [List.length_cons, pathL_len]; omega
    · obtain rfl : j = 0 := by have : j < 1 := hj; omega
      rfl
    · have h2 : 1 ≤ j := h2
      have h3 : j < (⟨#[]⟩ :: pathL f n).length := h3
      rw [List.length_cons, pathL_len] at h3
      obtain ⟨i, rfl⟩ : ∃ i, j = i + 1 := ⟨j - 1, by omega⟩
      show GoodPart ((pathL f n).getD i ⟨#[]⟩) ∧ hasSub ((pathL f n).getD i ⟨#[]⟩) _ = false
      rw [pathL_getD f n i (by omega)]
      exact h.part i (by omega)
  | false =>
    refine ⟨⟨?_, ?_⟩, Nat.zero_le 1, fun j hj => absurd hj (Nat.not_lt_zero _), fun j h2 h3 => ?_⟩
    · show 0 < (pathL f n).length
      rw [pathL_len]; omega
    · show (pathL f n).length ≤ 10
      rw [pathL_len]; omega
    · have h3 : j < (pathL f n).length := h3
      rw [pathL_len] at h3
      show GoodPart ((pathL f n).getD j ⟨#[]⟩) ∧ hasSub ((pathL f n).getD j ⟨#[]⟩) _ = false
      rw [pathL_getD f n j h3]
      exact h.part j h3
theorem pat_hit {n : Nat} {f : Nat → ByteArray} (h : GoodPat n f) (ahead : Bool) (dn : Nat) (d : Nat → ByteArray) (pn : Nat) (g : Nat → ByteArray) : hitB (patPL ahead n f) (patS ahead) dn d pn g = hitW n f ahead dn d pn g := by
  have h1 := h.one
  unfold hitB hitW
  congr 1
  cases ahead with
  | true =>
    show pmL MR (pathL f n) (if (⟨#[]⟩ :: pathL f n).length = 1 then _ else _) = _
    rw [if_neg (by rw [List.length_cons, pathL_len]; omega), if_neg (by intro e; cases e.2)]
  | false =>
    show pmL MR (pathL f n) (if (pathL f n).length = 1 then _ else _) = _
    rw [pathL_len]
    by_cases hn : n = 1
    · subst hn
      rw [if_pos rfl, if_pos ⟨rfl, rfl⟩]
      show (MR (f 0) (g (pn - 1)) && true) = _
      rw [Bool.and_true]
    · rw [if_neg hn, if_neg (fun e => hn e.1)]
theorem pat_split {n : Nat} {f : Nat → ByteArray} (h : GoodPat n f) (ahead : Bool) : splitN (gt f ahead n) = (patPL ahead n f).map nb := by
  obtain ⟨k, rfl⟩ : ∃ k, n = k + 1 := ⟨n - 1, by have := h.one; omega⟩
  rw [(gt_split f ahead (k + 1) k fun j hj => h.ok j hj).1]
  unfold patPL pathL
  cases ahead <;> simp [Function.comp_def, nb]
theorem pat_range {n : Nat} {f : Nat → ByteArray} {t : ByteArray} {ahead : Bool} {a : AttrT} (h : GoodPat n f) (ht : nb t = gt f ahead n) (ha : GoodA a) : ∀ c ∈ lineN t a, 32 ≤ c ∧ c ≤ 122 := by
  intro c hc
  rcases List.mem_append.mp hc with hc | hc
  · rw [ht] at hc
    have := gt_range f ahead n n h.ok c hc; omega
  · rcases List.mem_cons.mp hc with rfl | hc
    · decide
    · have := gaText_range ha c hc; omega
theorem readLineP {n : Nat} {f : Nat → ByteArray} {t line : ByteArray} {ahead : Bool} {a : AttrT} (h : GoodPat n f) (ht : nb t = gt f ahead n) (hts : t.size ≤ 100) (ha : GoodA a) (hl : nb line = lineN t a) (allow : Bool) (dA : Option Addr) (dn dc : Nat) (w : World) :
    Calls Tryd.prog 40 #[.string line, .slice dA dn dc, .bool allow] w (OkLine t 1 (fun _ => readOf a) (.slice dA dn dc) w) := by
  have hpre : LinePre n f 1 (fun _ => a) := ⟨⟨h.one, h.four, h.ok⟩, Nat.le_refl _, by decide, fun i hi => ha, fun i j h1 h2 => by omega⟩
  have hsp : SpOk (⟨#[32]⟩ : ByteArray) := by unfold SpOk; decide
  obtain ⟨z1, z2, z3, z4, z5, z6⟩ := line_fields (line := line) (b2 := ahead) hpre ht hts hsp (by
    rw [hl]
    show lineN t a = gt f ahead n ++ (nb (⟨#[32]⟩ : ByteArray) ++ gaText a)
    rw [← ht]; rfl)
  have := parseLine_any line t [bs (gaText a)] (fun _ => readOf a) allow dA dn dc w z1 z2 z3 z4 z5 (Nat.le_refl 1) (show 1 ≤ 20 by decide) (by omega) z6
    (fun i hi => by
      have : i = 0 := by simpa using hi
      subst this
      exact gaText_read ha (nb_bs _ fun c hc => by have := gaText_range ha c hc; omega))
    (fun i hi => word_okN ha.1)
  exact this
def patSpec (ahead : Bool) (n : Nat) (f : Nat → ByteArray) (t : ByteArray) (a : AttrT) : Spec := ⟨1, fun _ => t, fun _ => patPL ahead n f, fun _ => patS ahead, fun _ => 1, fun _ _ => readOf a⟩
theorem pat_read {n : Nat} {f : Nat → ByteArray} {t text : ByteArray} {ahead : Bool} {a : AttrT} (h : GoodPat n f) (ht : nb t = gt f ahead n) (hts : t.size ≤ 100) (ha : GoodA a) (htx : nb text = txt (fun _ => t) (fun _ => a) 1) (dn : Nat) (i : Nat) (hi : i < 1) (A : Option Addr) (c : Nat) (W : World) :
    Calls Tryd.prog 40 #[.string (lineT (fun i => bx text i) (txt (fun _ => t) (fun _ => a) i).length (lineN t a).length), .slice A dn c, .bool false] W (LinePost ((patSpec ahead n f t a).says (.slice A dn c) i) W) := by
  have hne : t.size ≠ 0 := by
    intro e
    have h1 := gt_ne f ahead n n h.one h.ok
    rw [← ht] at h1
    exact h1 (nb_nil e)
  refine (readLineP h ht hts ha (line_textR htx hi (pat_range h ht ha)) false A dn c W).mono fun e w' hl => ?_
  obtain ⟨b, h1, ⟨h2, h3, h4, p, h5, h6, h7⟩, h8⟩ := line_of_ok hl (by decide) hne
  refine ⟨b, h1, ⟨h2, h3, h4, p, h5, h6, ?_⟩, h8⟩
  rw [h7, ht, pat_split h]; rfl
theorem pat_R {n : Nat} {f : Nat → ByteArray} (h : GoodPat n f) (ahead : Bool) (t : ByteArray) (a : AttrT) (dn : Nat) (d : Nat → ByteArray) (pn : Nat) (g : Nat → ByteArray) :
    mgoF 1 ((patSpec ahead n f t a).hit dn d pn g) (patSpec ahead n f t a).cnt (patSpec ahead n f t a).att 1 RM.empty false = RO (if hitW n f ahead dn d pn g = true then some (readOf a) else none) := by
  have e : (patSpec ahead n f t a).hit dn d pn g = fun _ => hitW n f ahead dn d pn g := funext fun i => pat_hit h ahead dn d pn g
  rw [e]
  refine (mgo_last _ _ 1).trans ?_
  unfold lastHit lastHit
  by_cases hh : hitW n f ahead dn d pn g = true
  · rw [if_pos hh, if_pos hh]; rfl
  · rw [if_neg hh, if_neg hh]; rfl
/-- One line of several parts, asked for one name. -/
theorem matchPat_any (text t : ByteArray) (n : Nat) (f d g : Nat → ByteArray) (ahead : Bool) (a : AttrT) (dA pA nA : Option Addr) (dn dc pn pc nc : Nat) (nf : Nat → ByteArray) (ea : Addr) (msg : ByteArray) (w : World)
    (h : GoodPat n f) (ht : nb t = gt f ahead n) (hts : t.size ≤ 100) (ha : GoodA a) (htx : nb text = txt (fun _ => t) (fun _ => a) 1) (hE : ErrAt w 6 ea msg) (hd : Strs w dA dn d) (hdn : dn ≤ 100) (hpt : Strs w pA pn g) (hpn : 1 ≤ pn ∧ pn ≤ 100) (hnm : ∀ i, i < pn → Nm (g i)) (hnf : Strs w nA 1 nf) :
    Calls Tryd.prog 29 #[.string text, .slice dA dn dc, .bool false, .slice pA pn pc, .slice nA 1 nc] w (OnePost (if hitW n f ahead dn d pn g = true then some (readOf a) else none) w) := by
  have hlen : text.size = t.size + 1 + (gaText a).length + 1 := by
    rw [← nb_length, htx]
    show ([] ++ (lineN t a ++ [10])).length = _
    unfold lineN
    simp [nb_length]; omega
  have hg := gaText_len ha
  exact matchOne_any text (patSpec ahead n f t a) _ _ _ dA pA nA dn dc pn pc 1 nc d g nf false ea msg w ⟨by omega, by omega⟩
    ⟨show 1 ≤ 1000 by decide, fun i _ => show 1 ≤ 1000 by decide, fun i _ j _ => (by show a.1.size ≤ maxLen; have := ha.1.2.2; unfold maxLen; omega), fun i _ => pat_parts h ahead⟩
    (lines_atR htx fun i _ => pat_range h ht ha) (fun i hi A c W => pat_read h ht hts ha htx dn i hi A c W) hE hd hdn hpt hpn hnm hnf (by decide) (pat_R h ahead t a dn d pn g)
end Go.Proofs.YteipeagdflcjjaaDoor.Am
