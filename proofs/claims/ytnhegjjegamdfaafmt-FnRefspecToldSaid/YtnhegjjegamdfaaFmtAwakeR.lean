/- gitAwake: the hash of the one blob is the one that git tells. -/
import Derived.Test.YtnhegjjegamdfaaFmtShJ
namespace Go.Proofs.YtnhegjjegamdfaaFmt
open Go.RowKit
set_option linter.unusedSimpArgs false
set_option linter.unusedVariables false

set_option maxRecDepth 100000 in
set_option maxHeartbeats 2000000 in
theorem hashStr_any (w : World) : Calls Tryf.prog 38 #[.agg (bv (numL sumN) 20).toArray] w (StrPost hexA w) := by
  go_enter Tryf.func38, Tryf.ntmps38
  go_wp2_with fail
  generalize hW : w.alloc _ = W1
  have HR1 : Hid (W1.heap[w.heap.size]? = some (.cells (bv (numL sumN) 20).toArray 57 (0, 0))) := Lib.hid (by subst hW; exact heap_new _ _)
  have HB1 : Hid (Below w.heap.size w W1) := Lib.hid (by subst hW; exact (Below.refl _ _).alloc (Nat.le_refl _) _)
  have hc : ∀ i, i < 20 → W1.cell? ⟨w.heap.size, 0 + i, none⟩ = some (.int .u8 (numL sumN i : Nat)) := fun i hi => by
    rw [Nat.zero_add]
    refine row_cell2 HR1.out ?_
    unfold bv
    rw [List.getElem?_map, List.getElem?_range hi]; rfl
  have HC := Lib.hid hc
  clear hc hW
  with_reducible refine (hexStr_any w.heap.size 20 W1 (Array.getElem?_eq_some_iff.1 HR1.out).1 HC.out).mono ?_
  rintro e W2 ⟨rfl, hb⟩
  have HB2 : Hid (Below w.heap.size w W2) := Lib.hid (HB1.out.trans (hb.mono HB1.out.size))
  clear hb
  go_wp2
  go_ret
  exact ⟨rfl, HB2.out⟩

set_option maxRecDepth 100000 in
set_option maxHeartbeats 2000000 in
theorem HashOf_any (sb c : Nat) (w : World) (hsb : sb < w.heap.size) (hs : ∀ i, i < m6.length → w.cell? ⟨sb, 0 + i, none⟩ = some (.int .u8 (numL m6 i : Nat))) :
    Calls Tryf.prog 27 #[.int .i64 3, .slice (some ⟨sb, 0, none⟩) 6 c] w (StrPost hexA w) := by
  obtain ⟨i0, hi, hz0, hz1, hz2⟩ := info_parts u8Info
  have hnew : ∀ j u, (bv (numL m6) 6)[j]? = some u → w.cell? ((⟨sb, 0, none⟩ : Addr).add j) = some u := fun j u hj => by
    obtain ⟨h1, rfl⟩ := bv_at _ _ j u hj
    rw [add_at]; exact hs j h1
  have HNEW := Lib.hid hnew
  have HN : Hid ((bv (numL m6) 6).length = 6 * 1) := Lib.hid (bv_length _ _)
  clear hs hnew
  go_enter Tryf.func27, Tryf.ntmps27
  go_wp2_with (at_builtin; refine wpList_append_lies _ rfl (.const (.slice none 0 0)) (.tmp 7) 51 rfl w.heap.size 5 i0 (.int .u8 0) 1 1 bytesKind hi hz0 hz1 hz2 rfl (by decide) (.slice none 0 0) 0 [] rfl (World.ownsRow_nil _ _ _ _) ⟨sb, 0, none⟩ 6 c (bv (numL m6) 6) rfl HN.out HNEW.out (bv_one _ _) (by decide) (by decide) (by decide) (Nat.le_refl _) _ rfl ?_; intro gg cap2 w4 hown4 hgrow _ hlt; have R4 := Lib.hid (own_bytes (l := m6) hown4 (by decide)); have HLT := Lib.hid hlt; have HB4 : Hid (Below w.heap.size w w4) := Lib.hid ((Below.refl _ _).grown hgrow (Nat.le_refl _) (fun q e => by cases e)); clear hown4 hgrow hlt)
  with_reducible refine (Compute_any gg cap2 w4 HLT.out R4.out.2.1 R4.out.2.2.1 (fun i hi => by rw [Nat.zero_add]; exact R4.out.2.2.2 i hi)).mono ?_
  rintro e w5 ⟨rfl, hb⟩
  have HB5 : Hid (Below w.heap.size w w5) := Lib.hid (HB4.out.trans (hb.mono HB4.out.size))
  clear hb R4 HLT HB4
  go_wp2_with fail
  with_reducible refine (hashStr_any w5).mono ?_
  rintro e w6 ⟨rfl, hb⟩
  have HB6 : Hid (Below w.heap.size w w6) := Lib.hid (HB5.out.trans (hb.mono HB5.out.size))
  clear hb
  go_wp2
  go_ret
  exact ⟨rfl, HB6.out⟩

def AwakePost (w : World) (e : Ending) (w' : World) : Prop := e = .returned (.bool true) ∧ Below w.heap.size w w'
set_option maxRecDepth 100000 in
set_option maxHeartbeats 2000000 in
theorem gitAwake_any (w : World) : Calls Tryf.prog 11 #[] w (AwakePost w) := by
  have hcv := Lib.run_convert_bytes_const (P := Tryf.prog) w 51 5 #[.int .u8 104, .int .u8 101, .int .u8 108, .int .u8 108, .int .u8 111, .int .u8 10] 6 6 bytesKind byteKind
  go_enter Tryf.func11, Tryf.ntmps11
  go_wp2_with fail
  generalize hW : w.alloc _ = W1
  have HB1 : Hid (Below w.heap.size w W1) := Lib.hid (by subst hW; exact (Below.refl _ _).alloc (Nat.le_refl _) _)
  have HZ1 : Hid (w.heap.size < W1.heap.size) := Lib.hid (by subst hW; rw [heap_new_size]; omega)
  have HC1 : Hid (∀ i, i < m6.length → W1.cell? ⟨w.heap.size, 0 + i, none⟩ = some (.int .u8 (numL m6 i : Nat))) := Lib.hid fun i hi => by
    subst hW
    have hi6 : i < 6 := hi
    rcases (by omega : i = 0 ∨ i = 1 ∨ i = 2 ∨ i = 3 ∨ i = 4 ∨ i = 5) with rfl | rfl | rfl | rfl | rfl | rfl <;> exact World.cell?_alloc_mark w _ _ _ _
  clear hW hcv
  with_reducible refine (HashOf_any w.heap.size 6 W1 HZ1.out HC1.out).mono ?_
  rintro e w2 ⟨rfl, hb⟩
  have HB2 : Hid (Below w.heap.size w w2) := Lib.hid (HB1.out.trans (hb.mono HB1.out.size))
  clear hb
  have hq := beq_str hexA [99, 101, 48, 49, 51, 54, 50, 53, 48, 51, 48, 98, 97, 56, 100, 98, 97, 57, 48, 54, 102, 55, 53, 54, 57, 54, 55, 102, 57, 101, 57, 99, 97, 51, 57, 52, 52, 54, 52, 97]
  have hq2 : (nb hexA == ([99, 101, 48, 49, 51, 54, 50, 53, 48, 51, 48, 98, 97, 56, 100, 98, 97, 57, 48, 54, 102, 55, 53, 54, 57, 54, 55, 102, 57, 101, 57, 99, 97, 51, 57, 52, 52, 54, 52, 97] : List UInt8).map UInt8.toNat) = true := by kernel_rfl
  rw [hq2] at hq
  clear hq2
  generalize hexA = s at hq
  go_wp2
  go_ret
  exact ⟨rfl, HB2.out⟩
end Go.Proofs.YtnhegjjegamdfaaFmt
