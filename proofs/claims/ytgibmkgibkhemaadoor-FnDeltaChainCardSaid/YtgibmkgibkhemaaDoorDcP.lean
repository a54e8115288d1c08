/- countEntries. -/
import Derived.Test.YtgibmkgibkhemaaDoorDcO
namespace Go.Proofs.YtgibmkgibkhemaaDoor
open Go.RowKit
set_option linter.unusedSimpArgs false
set_option linter.unusedVariables false

/-- How long a chain is (f: no less than its head). -/
def clen (N : Nat → Nat) : Nat → Nat → Nat
  | 0, _ => 0
  | f + 1, h => if h = 0 then 0 else 1 + clen N f (N h)
def cl (N : Nat → Nat) (h : Nat) : Nat := clen N h h
theorem clen_le (N : Nat → Nat) : ∀ f h, clen N f h ≤ f
  | 0, _ => Nat.le_refl _
  | f + 1, h => by
    unfold clen
    split
    · omega
    · have := clen_le N f (N h); omega
theorem clen_stable {N : Nat → Nat} {m : Nat} (hN : ∀ i, i < m → N i ≤ i - 1) : ∀ f g h, h < m → h ≤ f → h ≤ g → clen N f h = clen N g h
  | 0, 0, h, _, _, _ => rfl
  | 0, g + 1, h, _, h0, _ => by
    obtain rfl : h = 0 := by omega
    unfold clen; rfl
  | f + 1, 0, h, _, _, h0 => by
    obtain rfl : h = 0 := by omega
    unfold clen; rfl
  | f + 1, g + 1, h, hm, h1, h2 => by
    unfold clen
    split
    · rfl
    · have := hN h hm
      rw [clen_stable hN f g (N h) (by omega) (by omega) (by omega)]
theorem cl_zero (N : Nat → Nat) : cl N 0 = 0 := rfl
theorem cl_step {N : Nat → Nat} {m : Nat} (hN : ∀ i, i < m → N i ≤ i - 1) {h : Nat} (hm : h < m) (h0 : h ≠ 0) : cl N h = 1 + cl N (N h) := by
  obtain ⟨k, rfl⟩ : ∃ k, h = k + 1 := ⟨h - 1, by omega⟩
  have h1 := hN (k + 1) hm
  unfold cl
  show (if k + 1 = 0 then 0 else 1 + clen N k (N (k + 1))) = _
  rw [if_neg h0, clen_stable hN k (N (k + 1)) (N (k + 1)) (by omega) (by omega) (Nat.le_refl _)]
theorem cl_le (N : Nat → Nat) (h : Nat) : cl N h ≤ h := clen_le N h h
def ssum (N T : Nat → Nat) : Nat → Nat
  | 0 => 0
  | k + 1 => ssum N T k + cl N (T k)
theorem ssum_le (N T : Nat → Nat) (c : Nat) : ∀ k, (∀ i, i < k → T i ≤ c) → ssum N T k ≤ k * c
  | 0, _ => by show 0 ≤ _; omega
  | k + 1, h => by
    have h1 := ssum_le N T c k (fun i hi => h i (by omega))
    have h2 := cl_le N (T k)
    have h3 := h k (by omega)
    show ssum N T k + cl N (T k) ≤ (k + 1) * c
    rw [Nat.succ_mul]
    omega
set_option maxRecDepth 100000 in
set_option maxHeartbeats 8000000 in
theorem countEntries_any (sc tb en nx tn m cnt L : Nat) (T E N : Nat → Nat) (w : World) (h : ScSt w sc tb en nx tn m cnt T E N L) (ht : tn ≤ 64) (hm : m ≤ 63) :
    Calls Tryd.prog 51 #[.pointer (some ⟨sc, 0, none⟩)] w fun e w' => e = .returned (.int .i64 (ssum N T tn : Nat)) ∧ w' = w := by
  obtain ⟨f0, f1, f2, f3, f4, g4⟩ := h.cells
  have H := Lib.hid h
  have hc62 : cnt ≤ 62 := by have := h.cm; omega
  have HSS : Hid (∀ i, i ≤ tn → ssum N T i ≤ 4000) := Lib.hid (fun i hi => by
    have := ssum_le N T 62 i (fun q hq => Nat.le_trans (H.out.tv q (by omega)) hc62)
    have : i * 62 ≤ 64 * 62 := Nat.mul_le_mul_right _ (by omega)
    omega)
  clear h
  go_enter Tryd.func51, Tryd.ntmps51
  go_wp2
  go_loop [2, 3] (fun cv iv => ∃ i : Nat, i ≤ tn ∧ iv = .int .i64 (i : Nat) ∧ cv = .int .i64 (ssum N T i : Nat)) (fun _ iv => tn - (intOf iv).toNat)
  case atStart => exact ⟨0, Nat.zero_le _, rfl, rfl⟩
  case round =>
    obtain ⟨i, hi, rfl, rfl⟩ := hrel
    have hs4 := HSS.out i hi
    generalize hs : ssum N T i = s at hs4 ⊢
    have HS := Lib.hid hs
    clear hs
    by_cases hlt : i < tn
    · have hli : (i : Int) < tn := by omega
      have ct := H.out.t.cell hlt
      have hTi := H.out.tv i hlt
      generalize hhd : T i = hd at ct hTi
      have HHD := Lib.hid hhd
      clear hhd
      by_cases h0 : hd = 0
      · have HSUM : Hid (ssum N T (i + 1) = s) := Lib.hid (by show ssum N T i + cl N (T i) = s; rw [HHD.out, h0, cl_zero, HS.out]; omega)
        subst h0
        go_wp2
        go_round
        case rel => exact ⟨i + 1, by omega, by go_num, by rw [HSUM.out]⟩
        case measure => simp [intOf] <;> omega
      · have hz : ((hd : Int) == 0) = false := beq_eq_false_iff_ne.mpr (by omega)
        go_upto_region 7 with (fail)
        go_loop [4, 5] (fun hv sv => ∃ g q : Nat, hv = .int .i64 (g : Nat) ∧ sv = .int .i64 (q : Nat) ∧ g ≠ 0 ∧ g ≤ cnt ∧ q + cl N g = cl N hd) (fun hv _ => (intOf hv).toNat)
        case atStart => exact ⟨hd, 0, rfl, rfl, h0, hTi, by omega⟩
        case round =>
          obtain ⟨g, q, rfl, rfl, hg0, hgc, hql⟩ := hrel
          have hgm : g < m := by have := H.out.cm; omega
          have hcs := cl_step H.out.nv hgm hg0
          have hhl := cl_le N hd
          have hq62 : q + 1 ≤ 62 := by omega
          have HQL := Lib.hid (show q + 1 + cl N (N g) = cl N hd by omega)
          have hnv := H.out.nv g hgm
          have cn := H.out.n.cell hgm
          have hgi : (g : Int) < m := by omega
          generalize hng : N g = g2 at cn hnv HQL
          have hq64 : ((q : Int) + 1 == 64) = false := beq_eq_false_iff_ne.mpr (by omega)
          clear hcs hhl hng hql
          by_cases hg2 : g2 = 0
          · have hz2 : ((g2 : Int) == 0) = true := beq_iff_eq.mpr (by omega)
            have HSUM : Hid (ssum N T (i + 1) = s + (q + 1)) := Lib.hid (by
              show ssum N T i + cl N (T i) = _
              have := HQL.out
              rw [hg2, cl_zero] at this
              rw [HHD.out, HS.out]; omega)
            go_wp2
            go_round
            case rel => exact ⟨i + 1, by omega, by go_num, by rw [HSUM.out]; congr 1⟩
            case measure => simp [intOf] <;> omega
          · have hz2 : ((g2 : Int) == 0) = false := beq_eq_false_iff_ne.mpr (by omega)
            go_wp2
            go_round
            case rel => exact ⟨g2, q + 1, rfl, by go_num, hg2, by omega, HQL.out⟩
            case measure => simp [intOf] <;> omega
    · have hle : ¬ (i : Int) < tn := by omega
      obtain rfl : i = tn := by omega
      go_wp2
      go_ret
      exact ⟨by rw [HS.out]; rfl, rfl⟩
end Go.Proofs.YtgibmkgibkhemaaDoor
