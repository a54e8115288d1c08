/- plumbing.NewHasher of a blob of six bytes. -/
import Derived.Test.YtnhegjjegamdfaaFmtShG
import Derived.Deep.RegionHeld3
import Derived.Deep.RegionLaw
import Derived.Lib.SlBytesConst
namespace Go.Proofs.YtnhegjjegamdfaaFmt
open Go.RowKit
set_option linter.unusedSimpArgs false
set_option linter.unusedVariables false

structure DOk (l : List Nat) : Prop where
  size : (dOf l).length = 71
  nx : (dOf l)[69]? = some (.int .i64 (l.length : Nat))
  len : (dOf l)[70]? = some (.int .u64 (l.length : Nat))
def l4 : List Nat := [98, 108, 111, 98]
def l5 : List Nat := [98, 108, 111, 98, 32]
def l6 : List Nat := [98, 108, 111, 98, 32, 54]
def l7 : List Nat := [98, 108, 111, 98, 32, 54, 0]
theorem ok0 : DOk [] := ⟨by kernel_rfl, by kernel_rfl, by kernel_rfl⟩
theorem ok4 : DOk l4 := ⟨by kernel_rfl, by kernel_rfl, by kernel_rfl⟩
theorem ok5 : DOk l5 := ⟨by kernel_rfl, by kernel_rfl, by kernel_rfl⟩
theorem ok6 : DOk l6 := ⟨by kernel_rfl, by kernel_rfl, by kernel_rfl⟩
theorem ok7 : DOk l7 := ⟨by kernel_rfl, by kernel_rfl, by kernel_rfl⟩
def ToPost (d : Nat) (T : TypeId) (l : List Nat) (n : Nat) (w : World) (e : Ending) (w' : World) : Prop :=
  e = .returned (.tuple #[.int .i64 n, .nilIface]) ∧ w'.heap[d]? = some (.cells (dOf l).toArray T (0, 0)) ∧ w.grownBy w' (some d)
theorem write_to (l l2 l3 : List Nat) (n d sb so c : Nat) (hn : l2.length = n) (T : TypeId) (w : World) (hk : DOk l) (hrow : w.heap[d]? = some (.cells (dOf l).toArray T (0, 0))) (h2 : 1 ≤ l2.length) (hlt : l.length + l2.length < 64)
    (he : dWrite (dOf l) l.length l.length l2.length (numL l2) = dOf l3) (hc : l2.length ≤ c) (hcm : c ≤ 9223372036854775807) (hsd : sb ≠ d)
    (hs : ∀ i, i < l2.length → w.cell? ⟨sb, so + i, none⟩ = some (.int .u8 (numL l2 i : Nat))) :
    Calls Tryf.prog 43 #[.pointer (some ⟨d, 0, none⟩), .slice (some ⟨sb, so, none⟩) n c] w (ToPost d T l3 n w) := by
  subst hn
  by_cases h0 : l.length = 0
  · have hl : l = [] := List.length_eq_zero_iff.mp h0
    subst hl
    refine (write_first d sb so c T (dOf []) 0 l2.length (numL l2) w ⟨hrow, hk.size, hk.nx, hk.len⟩ h2 (by simpa using hlt) (by decide) hc hcm hsd hs).mono ?_
    rintro e w' ⟨rfl, h, hg⟩
    exact ⟨rfl, by rw [← he]; exact h, hg⟩
  · refine (write_more d sb so c T (dOf l) l.length l.length l2.length (numL l2) w ⟨hrow, hk.size, hk.nx, hk.len⟩ (by omega) h2 hlt (by omega) hc hcm hsd hs).mono ?_
    rintro e w' ⟨rfl, h, hg⟩
    exact ⟨rfl, by rw [← he]; exact h, hg⟩

set_option maxHeartbeats 1000000 in
theorem Bytes_any (w : World) : Calls Tryf.prog 51 #[.int .i8 3] w (BytesPost l4 w) := by
  have hconv := Lib.run_convert_string_bytes (P := Tryf.prog) w 9 51 5 ⟨#[98, 108, 111, 98]⟩ strKind bytesKind byteKind
  have z1 : (⟨#[98, 108, 111, 98]⟩ : ByteArray).size = 4 := rfl
  rw [z1] at hconv
  have HA := Lib.hid (bytesAt_new w 5 ⟨#[98, 108, 111, 98]⟩)
  have HB := Lib.hid (bytesBelow w 5 ⟨#[98, 108, 111, 98]⟩)
  have q1 := grownCap_ge w 4 0 5
  have q2 := grownCap_le_maxLen w 4 0 5 (by decide)
  have Q1 := Lib.hid q1; have Q2 := Lib.hid q2
  clear q1 q2 z1
  go_enter Tryf.func51, Tryf.ntmps51
  go_wp2_with fail
  with_reducible refine (kind_any _).mono ?_
  rintro e w' ⟨rfl, rfl⟩
  go_wp2
  go_ret
  exact ⟨_, _, rfl, Q1.out, by have := Q2.out; unfold maxLen at this; omega, Nat.le_refl _, fun i hi => by
    rw [(HA.out i hi).1]
    have hi4 : i < 4 := hi
    rcases (by omega : i = 0 ∨ i = 1 ∨ i = 2 ∨ i = 3) with rfl | rfl | rfl | rfl <;> rfl, HB.out⟩

/-- The world while a Hasher is made: its digest at d, the Hasher at hb, the result's cell first. -/
structure HSt (w W : World) (hb d : Nat) (l : List Nat) : Prop where
  row : W.heap[d]? = some (.cells (dOf l).toArray 81 (0, 0))
  hold : W.heap[hb]? = some (.cells #[.pointer (some ⟨d, 0, none⟩)] 65 (0, 0))
  res : ∃ v, W.heap[w.heap.size]? = some (.cells #[v] 65 (0, 0))
  low : Below w.heap.size w W
  ord : w.heap.size < d ∧ d < hb ∧ hb < W.heap.size
theorem HSt.below {w W W' : World} {hb d : Nat} {l : List Nat} (h : HSt w W hb d l) (hb2 : Below W.heap.size W W') : HSt w W' hb d l := by
  have ho := h.ord
  refine ⟨(hb2.block d (by omega)).trans h.row, (hb2.block hb (by omega)).trans h.hold, ?_, h.low.trans (hb2.mono h.low.size), ⟨ho.1, ho.2.1, Nat.lt_of_lt_of_le ho.2.2 hb2.size⟩⟩
  obtain ⟨v, hv⟩ := h.res
  exact ⟨v, (hb2.block w.heap.size (by omega)).trans hv⟩
theorem HSt.write {w W W' : World} {hb d : Nat} {l l3 : List Nat} (h : HSt w W hb d l) (hr : W'.heap[d]? = some (.cells (dOf l3).toArray 81 (0, 0))) (hg : W.grownBy W' (some d)) : HSt w W' hb d l3 := by
  have ho := h.ord
  have hne : ∀ k, k ≠ d → k < W.heap.size → W'.heap[k]? = W.heap[k]? := fun k hk hlt => hg.block k hlt (fun e => hk (Option.some.inj e))
  refine ⟨hr, (hne hb (by omega) (by omega)).trans h.hold, ?_, h.low.grown hg h.low.size (fun k hk => by cases hk; omega), ⟨ho.1, ho.2.1, Nat.lt_of_lt_of_le ho.2.2 hg.size⟩⟩
  obtain ⟨v, hv⟩ := h.res
  exact ⟨v, (hne w.heap.size (by omega) (by omega)).trans hv⟩
theorem HSt.load {w W : World} {hb d : Nat} {l : List Nat} (h : HSt w W hb d l) : W.cell? ⟨hb, 0, none⟩ = some (.pointer (some ⟨d, 0, none⟩)) := by
  rw [Lib.cell_of_heap h.hold]; rfl
theorem hasherKind : Tryf.prog.underlying 65 = some (.struct (fieldsOf (Tryf.prog.underlying 65))) := by kernel_rfl
theorem hasherSize : (Tryf.prog.info? 65).map (·.size) = some 1 := by kernel_rfl
def HasherPost (w : World) (e : Ending) (w' : World) : Prop :=
  ∃ d, e = .returned (.agg #[.pointer (some ⟨d, 0, none⟩)]) ∧ w.heap.size ≤ d ∧ w'.heap[d]? = some (.cells (dOf l7).toArray 81 (0, 0)) ∧ Below w.heap.size w w'
set_option maxRecDepth 100000 in
set_option maxHeartbeats 4000000 in
theorem NewHasher_any (w : World) : Calls Tryf.prog 42 #[.int .i8 3, .int .i64 6] w (HasherPost w) := by
  go_enter Tryf.func42, Tryf.ntmps42
  go_upto_region 1 with (fail)
  generalize hW : w.alloc _ = W1
  have HR1 : Hid (W1.heap.size = w.heap.size + 1) := Lib.hid (by subst hW; exact heap_new_size _ _)
  have HB1 : Hid (Below w.heap.size w W1) := Lib.hid (by subst hW; exact (Below.refl _ _).alloc (Nat.le_refl _) _)
  have HC1 : Hid (∃ v, W1.heap[w.heap.size]? = some (.cells #[v] 65 (0, 0))) := Lib.hid ⟨_, by subst hW; exact heap_new _ _⟩
  clear hW
  go_wp2_with fail
  with_reducible refine (New_any W1).mono ?_
  rintro e W2 ⟨rfl, h1, h2⟩
  obtain ⟨d, hdd⟩ : ∃ d, d = W1.heap.size := ⟨_, rfl⟩
  rw [← hdd] at h1 ⊢
  have HD2 := Lib.hid h1
  have HB2 : Hid (Below w.heap.size w W2) := Lib.hid (HB1.out.trans (h2.mono HB1.out.size))
  have hdw : w.heap.size < d := by rw [hdd, HR1.out]; omega
  have hz2 : Hid (d < W2.heap.size) := Lib.hid (Array.getElem?_eq_some_iff.1 h1).1
  have HC2 : Hid (∃ v, W2.heap[w.heap.size]? = some (.cells #[v] 65 (0, 0))) := Lib.hid (by obtain ⟨v, hv⟩ := HC1.out; exact ⟨v, (h2.block w.heap.size (by rw [HR1.out]; omega)).trans hv⟩)
  clear h1 h2 hdd HR1 HB1 HC1
  go_upto_region 2 with (fail)
  generalize hW : W2.alloc _ = W3
  obtain ⟨hb, hhb⟩ : ∃ hb, hb = W2.heap.size := ⟨_, rfl⟩
  have HH3 : Hid (W3.heap[hb]? = some (.cells #[.pointer (some ⟨d, 0, none⟩)] 65 (0, 0))) := Lib.hid (by subst hW; rw [hhb]; exact heap_new _ _)
  have HD3 : Hid (W3.heap[d]? = some (.cells (dOf []).toArray 81 (0, 0))) := Lib.hid (by subst hW; exact row_alloc HD2.out _)
  have HB3 : Hid (Below w.heap.size w W3) := Lib.hid (by subst hW; exact HB2.out.alloc HB2.out.size _)
  have HC3 : Hid (∃ v, W3.heap[w.heap.size]? = some (.cells #[v] 65 (0, 0))) := Lib.hid (by subst hW; obtain ⟨v, hv⟩ := HC2.out; exact ⟨v, row_alloc hv _⟩)
  have HZ3 : Hid (d < hb ∧ hb < W3.heap.size) := Lib.hid (by subst hW; rw [hhb, heap_new_size]; exact ⟨hz2.out, by omega⟩)
  rw [← hhb]
  clear hW HD2 HB2 HC2 hz2 hhb
  have HCELL : Hid (W3.cell? ⟨hb, 0, none⟩ = some (.pointer (some ⟨d, 0, none⟩))) := Lib.hid (by rw [Lib.cell_of_heap HH3.out]; rfl)
  have hcell := HCELL.out
  go_region_held3 (fun w' => w'.cell? ⟨hb, 0, none⟩ = some (.pointer (some ⟨d, 0, none⟩)))
    (first | exact HCELL.out | exact HK5.out | exact HK6.out)
    (first
      | (go_at_call 51; (with_reducible refine (Bytes_any _).mono ?_); rintro e w5 ⟨g5, k5, rfl, q1, q2, q3, q4, hb5⟩; have HQ5 := Lib.hid (And.intro q1 (And.intro q2 (And.intro (show W3.heap.size ≤ g5 from q3) q4))); have HB5 : Hid (Below W3.heap.size W3 w5) := Lib.hid ((Below.refl W3.heap.size W3).drew.trans hb5); have HK5 : Hid (w5.cell? ⟨hb, 0, none⟩ = some (.pointer (some ⟨d, 0, none⟩))) := Lib.hid ((HB5.out.cell (p := ⟨hb, 0, none⟩) HZ3.out.2).trans HCELL.out); clear q1 q2 q3 q4 hb5)
      | (go_at_call 43; (with_reducible refine (write_to [] l4 l4 l4.length d g5 0 k5 rfl 81 w5 ok0 ((HB5.out.block d (by have := HZ3.out; omega)).trans HD3.out) (by decide) (by decide) (by kernel_rfl) HQ5.out.1 HQ5.out.2.1 (by have := HZ3.out; have := HQ5.out.2.2.1; omega) (fun i hi => by rw [Nat.zero_add]; exact HQ5.out.2.2.2 i hi)).mono ?_); rintro e w6 ⟨rfl, h1, h2⟩; have HD6 := Lib.hid h1; have HG6 := Lib.hid h2; have HK6 : Hid (w6.cell? ⟨hb, 0, none⟩ = some (.pointer (some ⟨d, 0, none⟩))) := Lib.hid ((grownBy_cell (p := ⟨hb, 0, none⟩) h2 (by have := HZ3.out; have := HB5.out.size; show hb < _; omega) (by have := HZ3.out; show hb ≠ d; omega)).trans HK5.out); clear h1 h2))
  have H6 : Hid (HSt w w6 hb d l4) := Lib.hid ((HSt.mk HD3.out HH3.out HC3.out HB3.out ⟨hdw, HZ3.out.1, HZ3.out.2⟩ : HSt w W3 hb d []).below HB5.out |>.write HD6.out HG6.out)
  clear hcell HCELL HQ5 HB5 HK5 HD6 HG6 HK6 HH3 HD3 HB3 HC3 HZ3 hdw
  have k6 := H6.out.load
  have hcv := Lib.run_convert_bytes_const (P := Tryf.prog) w6 51 5 #[.int .u8 32] 1 1 bytesKind byteKind
  go_wp2_with fail
  have n1 : ∀ i, i < ([32] : List Nat).length → (w6.alloc (.cells #[.int .u8 32] 5 (1, 2))).cell? ⟨w6.heap.size, 0 + i, none⟩ = some (.int .u8 (numL [32] i : Nat)) := fun i hi => by
    have hi0 : i < 1 := hi
    obtain rfl : i = 0 := by omega
    exact World.cell?_alloc_mark w6 #[.int .u8 32] 5 (1, 2) 0
  have H6a : Hid (HSt w (w6.alloc (.cells #[.int .u8 32] 5 (1, 2))) hb d l4) := Lib.hid (H6.out.below ((Below.refl _ _).alloc (Nat.le_refl _) _))
  with_reducible refine (write_to l4 [32] l5 1 d w6.heap.size 0 1 rfl 81 _ ok4 H6a.out.row (by decide) (by decide) (by kernel_rfl) (by decide) (by decide) (by have := H6.out.ord; omega) n1).mono ?_
  rintro e w7 ⟨rfl, h1, h2⟩
  have H7 : Hid (HSt w w7 hb d l5) := Lib.hid (H6a.out.write h1 h2)
  clear h1 h2 n1 H6a H6 k6
  go_upto_region 4 with (fail)
  go_cut [23] (fun _ wx => HSt w wx hb d l6)
  case first =>
    have hload := H7.out.load
    have hconv := Lib.run_convert_string_bytes (P := Tryf.prog) w7.drew 9 51 5 ⟨#[54]⟩ strKind bytesKind byteKind
    have z1 : (⟨#[54]⟩ : ByteArray).size = 1 := rfl
    rw [z1] at hconv
    have HA := Lib.hid (bytesAt_new w7.drew 5 ⟨#[54]⟩)
    have HB : Hid (Below w7.heap.size w7 (Lib.bytesWorld w7.drew 5 ⟨#[54]⟩)) := Lib.hid ((Below.refl w7.heap.size w7).drew.trans (bytesBelow w7.drew 5 ⟨#[54]⟩))
    have Q1 : Hid (([54] : List Nat).length ≤ grownCap w7.drew 1 0 5) := Lib.hid (grownCap_ge w7.drew 1 0 5)
    have Q2 := Lib.hid (grownCap_le_maxLen w7.drew 1 0 5 (by decide))
    have H7a : Hid (HSt w (Lib.bytesWorld w7.drew 5 ⟨#[54]⟩) hb d l5) := Lib.hid (H7.out.below HB.out)
    have n1 : Hid (∀ i, i < ([54] : List Nat).length → (Lib.bytesWorld w7.drew 5 ⟨#[54]⟩).cell? ⟨w7.heap.size, 0 + i, none⟩ = some (.int .u8 (numL [54] i : Nat))) := Lib.hid fun i hi => by
      have hi0 : i < 1 := hi
      obtain rfl : i = 0 := by omega
      exact (HA.out 0 (by decide)).1
    have hload2 := H7a.out.load
    go_region_law (first
        | (go_simp; go_at_call 52; refine (format_any _).mono ?_; rintro e w8 ⟨rfl, rfl⟩)
        | (go_simp; go_at_call 43; refine (write_to l5 [54] l6 1 d w7.heap.size 0 (grownCap w7.drew 1 0 5) rfl 81 _ ok5 (by exact H7a.out.row) (by decide) (by decide) (by kernel_rfl) Q1.out (by have := Q2.out; unfold maxLen at this; omega) (by have := H7.out.ord; omega) (by exact n1.out)).mono ?_; rintro e w8 ⟨rfl, h1, h2⟩; have H8 : Hid (HSt w w8 hb d l6) := Lib.hid (H7a.out.write h1 h2); clear h1 h2))
    all_goals
      go_wp2
      go_meet
      case rel => exact H8.out
  case rest =>
  have H8 := Lib.hid hcut
  clear hcut H7
  generalize wc = w8 at H8 ⊢
  have k8 := H8.out.load
  have n2 : ∀ i, i < ([0] : List Nat).length → (w8.alloc (.cells #[.int .u8 0] 5)).cell? ⟨w8.heap.size, 0 + i, none⟩ = some (.int .u8 (numL [0] i : Nat)) := fun i hi => by
    have hi0 : i < 1 := hi
    obtain rfl : i = 0 := by omega
    exact World.cell?_alloc_mark w8 #[.int .u8 0] 5 (0, 0) 0
  have N2 := Lib.hid n2
  clear n2
  have H8a : Hid (HSt w (w8.alloc (.cells #[.int .u8 0] 5)) hb d l6) := Lib.hid (H8.out.below ((Below.refl _ _).alloc (Nat.le_refl _) _))
  go_wp2_with fail
  with_reducible refine (write_to l6 [0] l7 1 d w8.heap.size 0 1 rfl 81 _ ok6 H8a.out.row (by decide) (by decide) (by kernel_rfl) (by decide) (by decide) (by have := H8.out.ord; omega) N2.out).mono ?_
  rintro e w9 ⟨rfl, h1, h2⟩
  have H9 : Hid (HSt w w9 hb d l7) := Lib.hid (H8a.out.write h1 h2)
  clear h1 h2 k8 N2 H8 H8a
  obtain ⟨v, hv⟩ := H9.out.res
  have k9 := H9.out.load
  have cv : w9.cell? ⟨w.heap.size, 0, none⟩ = some v := by rw [Lib.cell_of_heap hv]; rfl
  have fv := Lib.frozen_of_heap hv 0
  have hv2 := Lib.hid (row_set2 (L := [v]) (i := 0) hv (.pointer (some ⟨d, 0, none⟩)))
  have HRES : Hid ((w9.setCell ⟨w.heap.size, 0, none⟩ (.pointer (some ⟨d, 0, none⟩))).heap[d]? = some (.cells (dOf l7).toArray 81 (0, 0))) := Lib.hid ((Below.heap_setCell _ _ _ _ (by have := H9.out.ord; show d ≠ w.heap.size; omega)).trans H9.out.row)
  have HLOW : Hid (Below w.heap.size w (w9.setCell ⟨w.heap.size, 0, none⟩ (.pointer (some ⟨d, 0, none⟩)))) := Lib.hid (H9.out.low.setCell (Nat.le_refl _) _)
  have hord := H9.out.ord
  clear hv
  go_wp2
  refine bodyPost_ret (results_cell_row rfl _ _ w.heap.size _ _ (0, 0) _ rfl hv2.out hasherKind rfl hasherSize) rfl ?_
  exact ⟨d, rfl, by omega, HRES.out, HLOW.out⟩
end Go.Proofs.YtnhegjjegamdfaaFmt
