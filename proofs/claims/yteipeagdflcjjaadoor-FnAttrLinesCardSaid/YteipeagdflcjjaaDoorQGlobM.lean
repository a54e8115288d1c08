/- globMatch. -/
import Derived.Test.YteipeagdflcjjaaDoorQSimple
namespace Go.Proofs.YteipeagdflcjjaaDoor
open Go.RowKit
set_option linter.unusedSimpArgs false
set_option linter.unusedVariables false

section
variable {M : ByteArray → ByteArray → Bool} {C : ByteArray → Bool} {p : ByteArray} {r path : List ByteArray} {ct m : Bool}
theorem gf_empty (h : nb p = []) : gfold M C (p :: r) ct m path = gfold M C r false m path := by
  conv => lhs; unfold gfold
  rw [if_pos h]
theorem gf_dd (h : nb p = [42, 42]) : gfold M C (p :: r) ct m path = if r = [] then some (m, path) else gfold M C r true m path := by
  conv => lhs; unfold gfold
  rw [if_neg (by rw [h]; simp), if_pos h]
theorem gf_cont (h1 : nb p ≠ []) (h2 : nb p ≠ [42, 42]) (h3 : C p = true) : gfold M C (p :: r) ct m path = none := by
  unfold gfold
  rw [if_neg h1, if_neg h2, if_pos h3]
theorem gf_none (h1 : nb p ≠ []) (h2 : nb p ≠ [42, 42]) (h3 : C p = false) : gfold M C (p :: r) ct m [] = none := by
  unfold gfold
  rw [if_neg h1, if_neg h2, if_neg (by rw [h3]; decide)]
theorem gf_trav {e : ByteArray} (h1 : nb p ≠ []) (h2 : nb p ≠ [42, 42]) (h3 : C p = false) : gfold M C (p :: r) true m (e :: path) = gfold M C r false (trav M p (e :: path)).1 (trav M p (e :: path)).2 := by
  conv => lhs; unfold gfold
  rw [if_neg h1, if_neg h2, if_neg (by rw [h3]; decide)]
  dsimp only
  rw [if_pos rfl]
theorem gf_one {e : ByteArray} (h1 : nb p ≠ []) (h2 : nb p ≠ [42, 42]) (h3 : C p = false) : gfold M C (p :: r) false m (e :: path) = if M p e = true then gfold M C r false true path else none := by
  conv => lhs; unfold gfold
  rw [if_neg h1, if_neg h2, if_neg (by rw [h3]; decide)]
  dsimp only
  rw [if_neg (by decide)]
end
theorem drop_getD (L : List ByteArray) (k : Nat) (h : k < L.length) : L.drop k = L.getD k ⟨#[]⟩ :: L.drop (k + 1) := by
  rw [List.drop_eq_getElem_cons h, List.getD_eq_getElem?_getD, List.getElem?_eq_getElem h]; rfl

/-- What is left of the path. -/
def PthAt (w : World) (f : Nat → ByteArray) (n q : Nat) (v : Value) (l : Nat) : Prop :=
  ∃ Aq C, v = .slice Aq l C ∧ q + l = n ∧ l ≤ C ∧ Strs w Aq l (fun i => f (q + i))
theorem PthAt.below {w w' : World} {f : Nat → ByteArray} {n q l : Nat} {v : Value} (h : PthAt w f n q v l) (hb : Below w.heap.size w w') : PthAt w' f n q v l := by
  obtain ⟨Aq, C, h1, h2, h3, h4⟩ := h
  exact ⟨Aq, C, h1, h2, h3, h4.below hb⟩
theorem Strs.tail {w : World} {b off l : Nat} {f : Nat → ByteArray} {q : Nat} (h : Strs w (some ⟨b, off, none⟩) (l + 1) (fun i => f (q + i))) : Strs w (some ⟨b, off + 1, none⟩) l (fun i => f (q + 1 + i)) := by
  intro i hi
  obtain ⟨b', off', e, h1, h2⟩ := h (i + 1) (by omega)
  cases e
  refine ⟨b, off + 1, rfl, h1, ?_⟩
  have e1 : off + 1 + i = off + (i + 1) := by omega
  have e2 : q + 1 + i = q + (i + 1) := by omega
  rw [e1]
  dsimp only at h2 ⊢
  rw [e2]
  exact h2

theorem tail_at {w : World} {f : Nat → ByteArray} {n q l C b o : Nat} (h : Strs w (some ⟨b, o + 1, none⟩) l (fun i => f (q + 1 + i))) (h1 : q + 1 + l = n) (h2 : l ≤ C) :
    PthAt w f n (q + 1) (.slice (if C = 0 then some ⟨b, o, none⟩ else some ⟨b, o + 1, none⟩) l C) l := by
  refine ⟨_, C, rfl, h1, h2, ?_⟩
  by_cases hC : C = 0
  · intro i hi; omega
  · rw [if_neg hC]; exact h
def sliceLen : Value → Nat
  | .slice _ n _ => n
  | _ => 0
def CC (p : ByteArray) : Bool := hasSub p ⟨#[42, 42]⟩

set_option maxRecDepth 100000 in
set_option maxHeartbeats 8000000 in
theorem globMatch_any (b : Nat) (PL : List ByteArray) (behind isDir : Bool) (A : Option Addr) (n c : Nat) (f : Nat → ByteArray) (w : World)
    (ho : PatObj w b PL behind) (hlen : PL.length ≤ 10) (hparts : ∀ p ∈ PL, nb p = [] ∨ nb p = [42, 42] ∨ GoodPart p) (hn : n ≤ 100) (hnc : n ≤ c) (hc : c ≤ 9223372036854775807) (hp : Strs w A n f) (hnm : ∀ i, i < n → NameOk (f i)) :
    Calls Tryd.prog 129 #[.pointer (some ⟨b, 0, none⟩), .slice A n c, .bool isDir] w (BoolBelow (gres behind isDir (gfold Mt CC PL false false (pathL f n))) w) := by
  have HO := Lib.hid ho; clear ho
  have HP := Lib.hid hp; clear hp
  have HN := Lib.hid hnm; clear hnm
  have HPA := Lib.hid hparts; clear hparts
  generalize hG : gfold Mt CC PL false false (pathL f n) = G
  have HG := Lib.hid hG; clear hG
  obtain ⟨A1, c1, hrow, hst⟩ := HO.out.row
  obtain ⟨r0, r1, r2, r3, r4⟩ := hrow.cells
  have HST := Lib.hid hst; clear hrow hst
  have HP0 : Hid (PthAt w f n 0 (.slice A n c) n) := Lib.hid ⟨A, c, rfl, by omega, hnc, by simpa using HP.out⟩
  go_enter Tryd.func129, Tryd.ntmps129
  go_upto_block 0 with (fail)
  clear r0 r1 r2 r3 r4
  go_cut [1, 7] (fun pth mv wx => ∃ q l mb, PthAt wx f n q pth l ∧ mv = .bool mb ∧ G = some (mb, (pathL f n).drop q) ∧ Below w.heap.size w wx)
  case first => as_aux_lemma =>
    go_wp2_with fail
    go_loopw [1, 7, 8, 21] (fun pth mv cv i wr => ∃ k q l mb ct, k ≤ PL.length ∧ PthAt wr f n q pth l ∧ mv = .bool mb ∧ cv = .bool ct ∧ i = .int .i64 (k : Nat) ∧ G = gfold Mt CC (PL.drop k) ct mb ((pathL f n).drop q) ∧ Below w.heap.size w wr) (fun _ _ _ i _ => PL.length - (intOf i).toNat)
    case atStart => exact ⟨0, 0, n, false, false, Nat.zero_le _, HP0.out, rfl, rfl, rfl, HG.out.symm, Below.refl _ _⟩
    case round =>
      obtain ⟨k, q, l, mb, ct, hk, hpth, rfl, rfl, rfl, hG, hbel⟩ := hrel
      have HB := Lib.hid hbel; clear hbel
      have HGK := Lib.hid hG; clear hG
      have HPT := Lib.hid hpth
      obtain ⟨Aq, C, rfl, hql, hlc, hsq⟩ := hpth
      have HSQ := Lib.hid hsq; clear hsq
      by_cases hlt : k < PL.length
      · obtain ⟨bp, offp, hAp, _, hcell⟩ := (HST.out.below HB.out).at k hlt
        have HMEM : Hid (PL.getD k ⟨#[]⟩ ∈ PL) := Lib.hid (by rw [List.getD_eq_getElem?_getD, List.getElem?_eq_getElem hlt]; exact List.getElem_mem _)
        rw [drop_getD PL k hlt] at HGK
        have hPO := HPA.out _ HMEM.out
        generalize PL.getD k ⟨#[]⟩ = p at hcell HGK hPO
        have HPO := Lib.hid hPO; clear hPO HMEM
        subst hAp
        have hqe : p.toList.isEmpty = decide (nb p = []) := by
          by_cases h : nb p = []
          · rw [decide_eq_true h]; exact isEmpty_str _ (size_nil h)
          · rw [decide_eq_false h]; exact isEmpty_str_not _ (fun e => h (nb_nil e))
        have hqd := beq_str p [42, 42]
        by_cases h1 : nb p = []
        · rw [decide_eq_true h1] at hqe
          have HN2 := Lib.hid (HGK.out.trans (gf_empty h1))
          clear h1 hqd
          go_wp2
          go_roundw
          case rel => exact ⟨k + 1, q, l, mb, false, by omega, HPT.out, rfl, rfl, by go_num, HN2.out, HB.out⟩
          case measure => simp [intOf] <;> omega
        · rw [decide_eq_false h1] at hqe
          have H1 := Lib.hid h1
          by_cases h2 : nb p = [42, 42]
          · have hd : (nb p == ([42, 42] : List UInt8).map UInt8.toNat) = true := beq_iff_eq.mpr h2
            rw [hd] at hqd
            have HD := Lib.hid (HGK.out.trans (gf_dd h2))
            clear hd h1 h2
            obtain ⟨A2, c2, hrow2, _⟩ := (HO.out.below HB.out).row
            obtain ⟨_, r1, _, _, _⟩ := hrow2.cells
            clear hrow2
            by_cases hl : k + 1 = PL.length
            · have q1 : ((k : Int) == (PL.length : Int) - 1) = true := beq_iff_eq.mpr (by omega)
              have HD2 : Hid (G = some (mb, (pathL f n).drop q)) := Lib.hid (by rw [HD.out, if_pos (List.drop_eq_nil_of_le (by omega))])
              go_wp2
              go_meet
              case rel => exact ⟨q, l, mb, HPT.out, rfl, HD2.out, HB.out⟩
            · have q1 : ((k : Int) == (PL.length : Int) - 1) = false := beq_eq_false_iff_ne.mpr (by omega)
              have HD2 : Hid (G = gfold Mt CC (PL.drop (k + 1)) true mb ((pathL f n).drop q)) := Lib.hid (by rw [HD.out, if_neg (fun e => by have := congrArg List.length e; rw [List.length_drop] at this; simp at this; omega)])
              go_wp2
              go_roundw
              case rel => exact ⟨k + 1, q, l, mb, true, by omega, HPT.out, rfl, rfl, by go_num, HD2.out, HB.out⟩
              case measure => simp [intOf] <;> omega
          · have hd : (nb p == ([42, 42] : List UInt8).map UInt8.toNat) = false := beq_eq_false_iff_ne.mpr h2
            rw [hd] at hqd
            have H2 := Lib.hid h2
            have HGP : Hid (GoodPart p) := Lib.hid ((HPO.out.resolve_left h1).resolve_left h2)
            have hps : p.size ≤ 10 := (toks_spec HGP.out).2.2.2
            clear hd h1 h2
            go_wp2_with fail
            with_reducible refine (zzContains_any p ⟨#[42, 42]⟩ _ (by omega) (by decide)).mono ?_
            rintro e w2 ⟨rfl, rfl⟩
            cases hC : hasSub p ⟨#[42, 42]⟩ with
            | true =>
              have HD : Hid (G = none) := Lib.hid (HGK.out.trans (gf_cont H1.out H2.out hC))
              clear hC
              go_wp2
              go_ret
              exact ⟨by rw [HD.out]; rfl, HB.out⟩
            | false =>
              have HC : Hid (CC p = false) := Lib.hid hC
              clear hC
              cases l with
              | zero =>
                have HD : Hid (G = none) := Lib.hid (HGK.out.trans (by rw [pathL_end f n q (by omega)]; exact gf_none H1.out H2.out HC.out))
                go_wp2
                go_ret
                exact ⟨by rw [HD.out]; rfl, HB.out⟩
              | succ l =>
                obtain ⟨C, rfl⟩ : ∃ C', C = C' + 1 := ⟨C - 1, by omega⟩
                have hlz : (((l + 1 : Nat) : Int) == 0) = false := beq_eq_false_iff_ne.mpr (by omega)
                cases ct with
                | true =>
                  clear hcell hqe hqd
                  go_wp2_with fail
                  rw [show (((l : Int) + 1) == 0) = false from beq_eq_false_iff_ne.mpr (by omega)]
                  go_loopw [1, 7] (fun pth mv wx => ∃ q2 l2 m2, PthAt wx f n q2 pth l2 ∧ mv = .bool m2 ∧ trav Mt p ((pathL f n).drop q) = trav Mt p ((pathL f n).drop q2) ∧ (l2 = 0 → m2 = false) ∧ Below w.heap.size w wx) (fun pth _ _ => sliceLen pth)
                  case atStart => exact ⟨q, l + 1, mb, HPT.out, rfl, rfl, fun h => by omega, HB.out⟩
                  case round =>
                    obtain ⟨q2, l2, m2, hpth2, rfl, htr, hm2, hbel⟩ := hrel
                    have HB3 := Lib.hid hbel; clear hbel
                    have HTR := Lib.hid htr; clear htr
                    have HM2 := Lib.hid hm2; clear hm2
                    have HPT2 := Lib.hid hpth2
                    obtain ⟨A2, C2, rfl, hql2, hlc2, hsq2⟩ := hpth2
                    have HSQ2 := Lib.hid hsq2; clear hsq2
                    cases l2 with
                    | zero =>
                      obtain rfl := HM2.out rfl
                      have HF : Hid (trav Mt p ((pathL f n).drop q) = (false, (pathL f n).drop q2)) := Lib.hid (by rw [HTR.out, pathL_end f n q2 (by omega)]; rfl)
                      have HF2 : Hid (G = gfold Mt CC (PL.drop (k + 1)) false false ((pathL f n).drop q2)) := Lib.hid (HGK.out.trans (by
                        have h := pathL_drop f n q (by omega)
                        rw [h, gf_trav H1.out H2.out HC.out, ← h, HF.out]))
                      go_wp2
                      go_roundw
                      case rel => exact ⟨k + 1, q2, 0, false, false, by omega, HPT2.out, rfl, rfl, by go_num, HF2.out, HB3.out⟩
                      case measure => simp [intOf] <;> omega
                    | succ l2 =>
                      obtain ⟨C2, rfl⟩ : ∃ C', C2 = C' + 1 := ⟨C2 - 1, by omega⟩
                      obtain ⟨bq, oq, hAq, _, hcq0⟩ := HSQ2.out.at 0 (by omega)
                      have hcq : wr.cell? ⟨bq, oq, none⟩ = some (.string (f q2)) := hcq0
                      clear hcq0
                      subst hAq
                      have HSQ3 := Lib.hid (Strs.tail HSQ2.out)
                      have HNM := Lib.hid (HN.out q2 (by omega)).nm
                      have HDR := Lib.hid (pathL_drop f n q2 (by omega))
                      have hlz2 : (0 : Int) < (l2 : Int) + 1 := by omega
                      generalize hff : f q2 = e2 at hcq HNM HDR
                      clear hff
                      by_cases hC0 : C2 = 0
                      · subst hC0
                        obtain rfl : l2 = 0 := by omega
                        go_wp2_with fail
                        with_reducible refine (match_any p e2 _ HGP.out HNM.out).mono ?_
                        rintro e w' ⟨rfl, hb'⟩
                        have HB4 := Lib.hid (HB3.out.trans (hb'.mono HB3.out.size))
                        have HSQ4 := Lib.hid (HSQ3.out.below hb'); clear hb'
                        have HPT4 : Hid (PthAt w' f n (q2 + 1) (.slice (some ⟨bq, oq, none⟩) 0 0) 0) := Lib.hid ⟨_, _, rfl, by omega, by omega, fun i hi => by omega⟩
                        cases hM : Mt p e2 with
                        | true =>
                          have HF : Hid (trav Mt p ((pathL f n).drop q) = (true, (pathL f n).drop (q2 + 1))) := Lib.hid (by rw [HTR.out, HDR.out]; unfold trav; rw [if_pos hM])
                          clear hM
                          have HF2 : Hid (G = gfold Mt CC (PL.drop (k + 1)) false true ((pathL f n).drop (q2 + 1))) := Lib.hid (HGK.out.trans (by
                            have h := pathL_drop f n q (by omega)
                            rw [h, gf_trav H1.out H2.out HC.out, ← h, HF.out]))
                          go_wp2
                          go_roundw
                          case rel => exact ⟨k + 1, q2 + 1, 0, true, false, by omega, HPT4.out, rfl, rfl, by go_num, HF2.out, HB4.out⟩
                          case measure => simp [intOf] <;> omega
                        | false =>
                          have HF : Hid (trav Mt p ((pathL f n).drop q) = trav Mt p ((pathL f n).drop (q2 + 1))) := Lib.hid (by rw [HTR.out, HDR.out]; conv => lhs; unfold trav; rw [if_neg (by rw [hM]; decide)])
                          clear hM
                          go_wp2
                          go_roundw
                          case rel => exact ⟨q2 + 1, 0, false, HPT4.out, rfl, HF.out, fun _ => rfl, HB4.out⟩
                          case measure => simp [sliceLen]
                      · go_wp2_with fail
                        with_reducible refine (match_any p e2 _ HGP.out HNM.out).mono ?_
                        rintro e w' ⟨rfl, hb'⟩
                        have HB4 := Lib.hid (HB3.out.trans (hb'.mono HB3.out.size))
                        have HSQ4 := Lib.hid (HSQ3.out.below hb'); clear hb'
                        have HPT4 : Hid (PthAt w' f n (q2 + 1) (.slice (some ⟨bq, oq + 1, none⟩) l2 C2) l2) := Lib.hid ⟨_, _, rfl, by omega, by omega, HSQ4.out⟩
                        cases hM : Mt p e2 with
                        | true =>
                          have HF : Hid (trav Mt p ((pathL f n).drop q) = (true, (pathL f n).drop (q2 + 1))) := Lib.hid (by rw [HTR.out, HDR.out]; unfold trav; rw [if_pos hM])
                          clear hM
                          have HF2 : Hid (G = gfold Mt CC (PL.drop (k + 1)) false true ((pathL f n).drop (q2 + 1))) := Lib.hid (HGK.out.trans (by
                            have h := pathL_drop f n q (by omega)
                            rw [h, gf_trav H1.out H2.out HC.out, ← h, HF.out]))
                          go_wp2
                          go_roundw
                          case rel => exact ⟨k + 1, q2 + 1, l2, true, false, by omega, HPT4.out, rfl, rfl, by go_num, HF2.out, HB4.out⟩
                          case measure => simp [intOf] <;> omega
                        | false =>
                          have HF : Hid (trav Mt p ((pathL f n).drop q) = trav Mt p ((pathL f n).drop (q2 + 1))) := Lib.hid (by rw [HTR.out, HDR.out]; conv => lhs; unfold trav; rw [if_neg (by rw [hM]; decide)])
                          clear hM
                          by_cases hl0 : l2 = 0
                          · subst hl0
                            go_wp2
                            go_roundw
                            case rel => exact ⟨q2 + 1, 0, false, HPT4.out, rfl, HF.out, fun _ => rfl, HB4.out⟩
                            case measure => simp [sliceLen]
                          · have hlq : ((l2 : Int) == 0) = false := beq_eq_false_iff_ne.mpr (by omega)
                            go_wp2
                            go_roundw
                            case rel => exact ⟨q2 + 1, l2, m2, HPT4.out, rfl, HF.out, fun h => absurd h hl0, HB4.out⟩
                            case measure => simp [sliceLen]
                | false =>
                  obtain ⟨bq, oq, hAq, _, hcq0⟩ := HSQ.out.at 0 (by omega)
                  have hcq : wr.cell? ⟨bq, oq, none⟩ = some (.string (f q)) := hcq0
                  clear hcq0
                  subst hAq
                  have HSQ3 := Lib.hid (Strs.tail HSQ.out)
                  have HNM := Lib.hid (HN.out q (by omega)).nm
                  have HDR := Lib.hid (pathL_drop f n q (by omega))
                  generalize hff : f q = e2 at hcq HNM HDR
                  clear hff
                  go_wp2_with fail
                  with_reducible refine (match_any p e2 _ HGP.out HNM.out).mono ?_
                  rintro e w' ⟨rfl, hb'⟩
                  have HB4 := Lib.hid (HB.out.trans (hb'.mono HB.out.size))
                  have HSQ4 := Lib.hid (HSQ3.out.below hb'); clear hb'
                  have HPT4 : Hid (PthAt w' f n (q + 1) (.slice (if C = 0 then some ⟨bq, oq, none⟩ else some ⟨bq, oq + 1, none⟩) l C) l) := Lib.hid (tail_at HSQ4.out (by omega) (by omega))
                  cases hM : Mt p e2 with
                  | true =>
                    have HF : Hid (G = gfold Mt CC (PL.drop (k + 1)) false true ((pathL f n).drop (q + 1))) := Lib.hid (HGK.out.trans (by rw [HDR.out, gf_one H1.out H2.out HC.out, if_pos hM]))
                    clear hM
                    go_wp2
                    go_roundw
                    case rel => exact ⟨k + 1, q + 1, l, true, false, by omega, HPT4.out, rfl, rfl, by go_num, HF.out, HB4.out⟩
                    case measure => simp [intOf] <;> omega
                  | false =>
                    have HF : Hid (G = none) := Lib.hid (HGK.out.trans (by rw [HDR.out, gf_one H1.out H2.out HC.out, if_neg (by rw [hM]; decide)]))
                    clear hM
                    go_wp2
                    go_ret
                    exact ⟨by rw [HF.out]; rfl, HB4.out⟩
      · have HD : Hid (G = some (mb, (pathL f n).drop q)) := Lib.hid (by rw [HGK.out, List.drop_eq_nil_of_le (by omega)]; rfl)
        go_wp2
        go_meet
        case rel => exact ⟨q, l, mb, HPT.out, rfl, HD.out, HB.out⟩
  case rest =>
    obtain ⟨q, l, mb, hpth, rfl, hG, hbel⟩ := hcut
    have HB := Lib.hid hbel; clear hbel
    obtain ⟨Aq, C, rfl, hql, hlc, _⟩ := hpth
    obtain ⟨A2, c2, hrow2, _⟩ := (HO.out.below HB.out).row
    obtain ⟨_, _, _, r3, _⟩ := hrow2.cells
    clear hrow2
    have HE : Hid (gres behind isDir G = (mb && !(behind && !isDir && decide (l = 0)))) := Lib.hid (by
      rw [hG]
      show (mb && !(behind && !isDir && ((pathL f n).drop q).isEmpty)) = _
      rw [pathL_empty]
      congr 4
      exact propext ⟨fun _ => by omega, fun _ => by omega⟩)
    clear hG
    cases mb with
    | false =>
      go_wp2
      go_ret
      exact ⟨by rw [HE.out]; rfl, HB.out⟩
    | true =>
      cases behind with
      | false =>
        go_wp2
        go_ret
        exact ⟨by rw [HE.out]; rfl, HB.out⟩
      | true =>
        cases isDir with
        | true =>
          go_wp2
          go_ret
          exact ⟨by rw [HE.out]; rfl, HB.out⟩
        | false =>
          by_cases hl0 : l = 0
          · subst hl0
            go_wp2
            go_ret
            exact ⟨by rw [HE.out]; rfl, HB.out⟩
          · have q1 : ((l : Int) == 0) = false := beq_eq_false_iff_ne.mpr (by omega)
            have HE2 : Hid (gres true false G = true) := Lib.hid (by rw [HE.out, decide_eq_false hl0]; rfl)
            go_wp2
            go_ret
            exact ⟨by rw [HE2.out]; rfl, HB.out⟩
end Go.Proofs.YteipeagdflcjjaaDoor
