/- crypto/sha1: Sum of the one digest. -/
import Derived.Test.YtnhegjjegamdfaaFmtShE
import Derived.Test.YtnhegjjegamdfaaFmtOwn
namespace Go.Proofs.YtnhegjjegamdfaaFmt
open Go.RowKit
set_option linter.unusedSimpArgs false
set_option linter.unusedVariables false

theorem arr20New : (#[.int .u8 0, .int .u8 0, .int .u8 0, .int .u8 0, .int .u8 0, .int .u8 0, .int .u8 0, .int .u8 0, .int .u8 0, .int .u8 0, .int .u8 0, .int .u8 0, .int .u8 0, .int .u8 0, .int .u8 0, .int .u8 0, .int .u8 0, .int .u8 0, .int .u8 0, .int .u8 0] : Array Value).size = (bv (numL sumN) 20).toArray.size := by kernel_rfl
theorem bv_news {w : World} {g n : Nat} {l : List Nat} {T : TypeId} (hn : n = l.length) (h : w.heap[g]? = some (.cells (bv (numL l) n).toArray T (0, 0))) : ∀ j u, (bv (numL l) n)[j]? = some u → w.cell? ((⟨g, 0, none⟩ : Addr).add j) = some u := fun j u hj => by
  rw [add_at, Nat.zero_add, Lib.cell_of_heap h]; simpa using hj
def BytesPost (l : List Nat) (w : World) (e : Ending) (w' : World) : Prop :=
  ∃ g cap, e = .returned (.slice (some ⟨g, 0, none⟩) l.length cap) ∧ l.length ≤ cap ∧ cap ≤ 9223372036854775807 ∧ w.heap.size ≤ g ∧ (∀ i, i < l.length → w'.cell? ⟨g, i, none⟩ = some (.int .u8 (numL l i : Nat))) ∧ Below w.heap.size w w'
def fieldsOf (o : Option TypeDesc) : Array Field := match o with | some (.struct f) => f | _ => #[]
theorem digKind : Tryf.prog.underlying 81 = some (.struct (fieldsOf (Tryf.prog.underlying 81))) := by kernel_rfl
theorem digSize : (Tryf.prog.info? 81).map (·.size) = some (dOf msgN).toArray.size := by kernel_rfl
theorem digOne : (dOf msgN).toArray.all (·.oneCell') = true := by kernel_rfl
theorem digOld : Tryf.zeroCells81.size = (dOf msgN).toArray.size := by kernel_rfl
theorem u8Info : (Tryf.prog.info? 5).map (fun i => (i.zero, i.size, i.bytes)) = some (some (.int .u8 0), 1, 1) := by kernel_rfl
theorem below_of {w w1 w2 : World} {b : Nat} (h : Below w.heap.size w w1) (h2 : w1.grownBy w2 (some b)) (hb : w.heap.size ≤ b) : Below w.heap.size w w2 :=
  h.grown h2 h.size (fun k hk => by cases hk; exact hb)
theorem own_bytes {w : World} {B g c : Nat} {l : List Nat} (h : w.ownsRow B 5 1 (.slice (some ⟨g, 0, none⟩) l.length c) l.length (bv (numL l) l.length)) (hl : 0 < l.length) :
    B ≤ g ∧ l.length ≤ c ∧ c ≤ 9223372036854775807 ∧ ∀ i, i < l.length → w.cell? ⟨g, i, none⟩ = some (.int .u8 (numL l i : Nat)) := by
  rcases h.2 with ⟨hn, h0⟩ | ⟨g2, cap2, cur, hv, hB, hg, hc, hm, _, htk⟩
  · omega
  · simp only [Value.slice.injEq, Option.some.injEq, Addr.mk.injEq] at hv
    obtain ⟨⟨rfl, _, _⟩, _, rfl⟩ := hv
    refine ⟨hB, hc, by unfold maxLen at hm; omega, fun i hi => ?_⟩
    rw [Nat.mul_one] at htk
    have hk : (cur.toList.take l.length)[i]? = (bv (numL l) l.length)[i]? := by rw [htk]
    rw [List.getElem?_take_of_lt hi] at hk
    rw [Lib.cell_of_heap hg, ← Array.getElem?_toList, hk]
    unfold bv
    rw [List.getElem?_map, List.getElem?_range hi]; rfl

set_option maxRecDepth 100000 in
set_option maxHeartbeats 4000000 in
theorem Sum_any (d : Nat) (T : TypeId) (w : World) (hL : w.heap[d]? = some (.cells (dOf msgN).toArray T (0, 0))) :
    Calls Tryf.prog 54 #[.pointer (some ⟨d, 0, none⟩), .slice none 0 0] w (BytesPost sumN w) := by
  have HL := Lib.hid hL
  have hd : d < w.heap.size := (Array.getElem?_eq_some_iff.1 hL).1
  have hD1 := digKind
  generalize fieldsOf _ = D at hD1
  obtain ⟨i0, hi, hz0, hz1, hz2⟩ := info_parts u8Info
  clear hL
  go_enter Tryf.func54, Tryf.ntmps54
  go_upto_region 1 with (fail)
  go_wp2_with (first | (refine wpList_load_row rfl 81 (.tmp 8) rfl d rfl T (dOf msgN).toArray (0, 0) (.struct D) HL.out hD1 rfl digSize ?_) | (refine wpList_store_row rfl 81 (.tmp 5) (.tmp 9) rfl w.heap.size (dOf msgN).toArray rfl rfl 81 _ (heap_new _ _) digSize digOld digOne ?_))
  generalize hW : (w.alloc (.cells Tryf.zeroCells81 81)).setRow w.heap.size (dOf msgN).toArray = W1
  have HL1 : Hid (W1.heap[w.heap.size]? = some (.cells (dOf msgN).toArray 81 (0, 0))) := Lib.hid (by subst hW; exact setRow_row (heap_new _ _) _)
  have HB1 : Hid (Below w.heap.size w W1) := Lib.hid (by subst hW; exact below_of ((Below.refl _ _).alloc (Nat.le_refl _) _) (grownBy_setRow (grownBy_refl _ w.heap.size) _) (Nat.le_refl _))
  clear hW
  with_reducible refine (checkSum_any w.heap.size 81 W1 HL1.out).mono ?_
  rintro e W2 ⟨rfl, h2⟩
  have HB2 : Hid (Below w.heap.size w W2) := Lib.hid (below_of HB1.out h2 (Nat.le_refl _))
  clear h2 HL1 HB1
  have HN : Hid ((bv (numL sumN) 20).length = 20) := Lib.hid (bv_length _ _)
  go_wp2_with (first | (refine wpList_store_row rfl 56 (.tmp 6) (.tmp 10) rfl W2.heap.size (bv (numL sumN) 20).toArray rfl rfl 56 _ (heap_new _ _) arr20Size arr20New arr20One ?_; generalize hW3 : World.setRow _ _ _ = W3; have HL3 : Hid (W3.heap[W2.heap.size]? = some (.cells (bv (numL sumN) 20).toArray 56 (0, 0))) := Lib.hid (by subst hW3; exact setRow_row (heap_new _ _) _); have HB3 : Hid (Below w.heap.size w W3) := Lib.hid (by subst hW3; exact below_of (HB2.out.alloc HB2.out.size _) (grownBy_setRow (grownBy_refl _ W2.heap.size) _) HB2.out.size); have HNEW := Lib.hid (bv_news (l := sumN) (by kernel_rfl) HL3.out); clear hW3) | (at_builtin; refine wpList_append_lies _ rfl (.tmp 11) (.tmp 12) 51 rfl w.heap.size 5 i0 (.int .u8 0) 1 1 bytesKind hi hz0 hz1 hz2 rfl (by decide) (.slice none 0 0) 0 [] rfl (World.ownsRow_nil _ _ _ _) ⟨W2.heap.size, 0, none⟩ 20 20 (bv (numL sumN) 20) rfl HN.out HNEW.out (bv_one _ _) (by decide) (by decide) (by decide) HB3.out.size _ rfl ?_; intro gg cap2 w4 hown4 hgrow _ _; have R4 := Lib.hid (own_bytes (l := sumN) hown4 (by decide)); have HB4 : Hid (Below w.heap.size w w4) := Lib.hid (HB3.out.grown hgrow HB3.out.size (fun q e => by cases e)); clear hown4 hgrow))
  go_ret
  exact ⟨gg, cap2, rfl, R4.out.2.1, R4.out.2.2.1, R4.out.1, R4.out.2.2.2, HB4.out⟩
end Go.Proofs.YtnhegjjegamdfaaFmt
