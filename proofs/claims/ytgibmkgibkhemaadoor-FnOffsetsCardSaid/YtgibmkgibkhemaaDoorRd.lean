/- Reading one byte out of a bytes.Reader. -/
import Derived.Test.YtgibmkgibkhemaaDoorOffW
import Derived.Deep.RegionLaw
import Derived.Deep.RegionHeld3
import Derived.Laws.CopyOwn
import Derived.Lib.FrozenHead
import Derived.Lib.BufferMore
namespace Go.Proofs.YtgibmkgibkhemaaDoor
open Go.RowKit
set_option linter.unusedSimpArgs false
set_option linter.unusedVariables false

theorem u8Size : (Tryd.prog.info? 5).map (·.size) = some 1 := by kernel_rfl
theorem lt_heap {w : World} {b : Nat} {o : Obj} (h : w.heap[b]? = some o) : b < w.heap.size := (Array.getElem?_eq_some_iff.1 h).1
/-- The reader's block, at a place. -/
def RdrAt (w : World) (rb db n c j : Nat) (x : Int) : Prop := w.heap[rb]? = some (.cells #[.slice (some ⟨db, 0, none⟩) n c, .int .i64 (j : Nat), .int .i64 x] 61 (0, 0))
def ReadPost (B rb tb db n c j y T : Nat) (w : World) (e : Ending) (w' : World) : Prop :=
  e = .returned (.tuple #[.int .i64 1, .nilIface]) ∧ RdrAt w' rb db n c (j + 1) (-1) ∧ w'.heap[tb]? = some (.cells #[.int .u8 (y : Nat)] T (0, 0)) ∧ (∀ k, k < tb → k ≠ rb → w'.heap[k]? = w.heap[k]?) ∧ Below B w w'

set_option maxRecDepth 100000 in
set_option maxHeartbeats 4000000 in
theorem read_any (B rb tb db n c j y T tc : Nat) (x z : Int) (w : World) (hB : B ≤ rb) (hrt : rb < tb) (hdt : db < tb) (hdr : db ≠ rb) (hj : j < n) (hn : n ≤ 1000) (hnc : n ≤ c) (hc : c ≤ 9223372036854775807)
    (hr : RdrAt w rb db n c j x) (ht : w.heap[tb]? = some (.cells #[.int .u8 z] T (0, 0))) (hd : w.cell? ⟨db, j, none⟩ = some (.int .u8 (y : Nat))) :
    Calls Tryd.prog 81 #[.pointer (some ⟨rb, 0, none⟩), .slice (some ⟨tb, 0, none⟩) 1 tc] w (ReadPost B rb tb db n c j y T w) := by
  have HR := Lib.hid hr; have HT := Lib.hid ht; have HD := Lib.hid hd
  have c0 : w.cell? ⟨rb, 0, none⟩ = some (.slice (some ⟨db, 0, none⟩) n c) := by rw [Lib.cell_of_heap hr]; rfl
  have c1 : w.cell? ⟨rb, 1, none⟩ = some (.int .i64 (j : Nat)) := by rw [Lib.cell_of_heap hr]; rfl
  have c2 : w.cell? ⟨rb, 2, none⟩ = some (.int .i64 x) := by rw [Lib.cell_of_heap hr]; rfl
  have f2 : w.frozen? ⟨rb, 2, none⟩ = false := Lib.frozen_of_heap hr 2
  have hlt : (j : Int) < n := by omega
  have hle : (j : Int) ≤ n := by omega
  have hlc : (n : Int) ≤ c := by omega
  clear hr ht hd
  go_enter Tryd.func81, Tryd.ntmps81
  go_wp2
  go_quiet (fail)
  go_wp2
  clear c0 c1 c2 f2
  have hV : Hid (∀ k, k ≠ rb → ((w.drewN nq).setCell ⟨rb, 2, none⟩ (.int .i64 (-1))).heap[k]? = w.heap[k]?) := Lib.hid fun k hk => Below.heap_setCell _ _ _ _ (fun e => hk e)
  have hR : RdrAt ((w.drewN nq).setCell ⟨rb, 2, none⟩ (.int .i64 (-1))) rb db n c j (-1) := by
    have := Lib.heap_setCell_same (w := w.drewN nq) (i := 2) HR.out (.int .i64 (-1))
    exact this
  have hBV : Hid (Below B w ((w.drewN nq).setCell ⟨rb, 2, none⟩ (.int .i64 (-1)))) := Lib.hid ((below_drewN (Below.refl _ _) _).setCell (p := ⟨rb, 2, none⟩) hB _)
  generalize (w.drewN nq).setCell ⟨rb, 2, none⟩ (.int .i64 (-1)) = V at hV hR hBV ⊢
  have HR2 := Lib.hid hR
  have HT2 : Hid (V.heap[tb]? = some (.cells [Value.int .u8 z].toArray T (0, 0))) := Lib.hid ((hV.out tb (by omega)).trans HT.out)
  have HD2 : Hid (V.cell? ⟨db, j, none⟩ = some (.int .u8 (y : Nat))) := Lib.hid (by
    have := HD.out
    unfold World.cell? at this ⊢
    rw [hV.out db hdr]; exact this)
  have c0 : V.cell? ⟨rb, 0, none⟩ = some (.slice (some ⟨db, 0, none⟩) n c) := by rw [Lib.cell_of_heap hR]; rfl
  have c1 : V.cell? ⟨rb, 1, none⟩ = some (.int .i64 (j : Nat)) := by rw [Lib.cell_of_heap hR]; rfl
  have hnj : ¬ c = j := by omega
  have HS2 : Hid (∀ (V' : World), (∀ k, V'.heap[k]? = V.heap[k]?) → ∀ (i : Nat) (v : Value), [Value.int .u8 (y : Nat)][i]? = some v → V'.cell? ((⟨db, j, none⟩ : Addr).add i) = some v) := Lib.hid fun V' hV' i v hv => by
    obtain rfl : i = 0 := by have := (List.getElem?_eq_some_iff.mp hv).1; simpa using this
    simp at hv; subst hv
    have hadd : (⟨db, j, none⟩ : Addr).add 0 = ⟨db, j, none⟩ := by unfold Addr.add; split <;> simp_all
    rw [hadd]
    have := HD2.out
    unfold World.cell? at this ⊢
    rw [hV' db]; exact this
  have hmin : [Value.int .u8 (y : Nat)].length = Nat.min (n - j) 1 := by show 1 = Nat.min (n - j) 1; exact (Nat.min_eq_right (show 1 ≤ n - j by omega)).symm
  have HMIN := Lib.hid hmin; clear hmin
  clear hR
  go_region_law (refine step_copy_splice rfl (.tmp 20) (.tmp 29) 38 38 rfl 5 bytesKind u8Size (some ⟨tb, 0, none⟩) (some ⟨db, j, none⟩) 1 tc (n - j) (c - j) rfl rfl tb 0 [Value.int .u8 z] T HT2.out [Value.int .u8 (y : Nat)] HMIN.out (fun _ => ⟨rfl, _, rfl, HS2.out _ (fun _ => rfl)⟩) (by simp) (by simp [Value.oneCell']) tb _ (Below.refl _ _) (Nat.le_refl _) ?_; intro V2 hT3 hb3; have HT3 := hT3; have HB3 := Lib.hid hb3; clear hT3 hb3)
  all_goals
    have HR3 : Hid (RdrAt V2 rb db n c j (-1)) := Lib.hid ((HB3.out.block rb hrt).trans HR2.out)
    have HT4 : Hid (V2.heap[tb]? = some (.cells #[.int .u8 (y : Nat)] T (0, 0))) := Lib.hid (by have := HT3.out; simpa [splice] using this)
    have HK : Hid (∀ k, k < tb → k ≠ rb → V2.heap[k]? = w.heap[k]?) := Lib.hid fun k hk hr => (HB3.out.block k hk).trans (hV.out k hr)
    have HBW : Hid (Below B w V2) := Lib.hid (hBV.out.trans ((Below.refl B V).drew.trans (HB3.out.mono (by omega))))
    have d1 : V2.cell? ⟨rb, 1, none⟩ = some (.int .i64 (j : Nat)) := by rw [Lib.cell_of_heap HR3.out]; rfl
    have d2 : V2.frozen? ⟨rb, 1, none⟩ = false := Lib.frozen_of_heap HR3.out 1
    clear HT3 HB3 HR2 HT2 HD2 HS2 HMIN c0 c1 hV hBV hnj hlt hle hlc
    go_wp2
    go_ret2
    refine ⟨rfl, ?_, ?_, ?_, ?_⟩
    · have := Lib.heap_setCell_same (i := 1) HR3.out (.int .i64 ((j : Int) + 1))
      exact this
    · rw [Below.heap_setCell _ _ _ _ (show tb ≠ rb by omega)]; exact HT4.out
    · intro k hk hr
      rw [Below.heap_setCell _ _ _ _ hr]; exact HK.out k hk hr
    · exact HBW.out.setCell (p := ⟨rb, 1, none⟩) hB _

set_option maxRecDepth 100000 in
set_option maxHeartbeats 4000000 in
theorem readAtLeast_any (B rb tb db n c j y T tc : Nat) (x z : Int) (w : World) (hB : B ≤ rb) (hrt : rb < tb) (hdt : db < tb) (hdr : db ≠ rb) (hj : j < n) (hn : n ≤ 1000) (hnc : n ≤ c) (hc : c ≤ 9223372036854775807) (htc : 1 ≤ tc)
    (hr : RdrAt w rb db n c j x) (ht : w.heap[tb]? = some (.cells #[.int .u8 z] T (0, 0))) (hd : w.cell? ⟨db, j, none⟩ = some (.int .u8 (y : Nat))) :
    Calls Tryd.prog 57 #[.iface 48 (.pointer (some ⟨rb, 0, none⟩)), .slice (some ⟨tb, 0, none⟩) 1 tc, .int .i64 1] w (ReadPost B rb tb db n c j y T w) := by
  have HR := Lib.hid hr; have HT := Lib.hid ht; have HD := Lib.hid hd
  clear hr ht hd
  have hna : ∀ (b : Nat) (w : World), (nilAhead 261 48 (.pointer (some ⟨b, 0, none⟩)) "Read").run Tryd.prog w = .ok (some false) w := fun _ _ => by kernel_rfl
  have hme : ∀ (b : Nat) (w : World), (method 261 48 (.pointer (some ⟨b, 0, none⟩)) "Read").run Tryd.prog w = .ok (81, .pointer (some ⟨b, 0, none⟩)) w := fun _ _ => by kernel_rfl
  go_enter Tryd.func57, Tryd.ntmps57
  go_wp2
  go_loopw [6, 7] (fun k e wr => e = .nilIface ∧ ((k = .int .i64 0 ∧ wr = w) ∨ (k = .int .i64 1 ∧ ReadPost B rb tb db n c j y T w (.returned (.tuple #[.int .i64 1, .nilIface])) wr))) (fun k _ _ => 1 - (intOf k).toNat)
  case atStart => exact ⟨rfl, .inl ⟨rfl, rfl⟩⟩
  case round =>
    obtain ⟨rfl, ⟨rfl, rfl⟩ | ⟨rfl, hp⟩⟩ := hrel
    · go_wp2
      go_region_law (go_simp; go_at_call 81; refine (read_any B rb tb db n c j y T tc x z _ hB hrt hdt hdr hj hn hnc hc (by exact HR.out) (by exact HT.out) (by exact HD.out)).mono ?_; rintro e w2 ⟨rfl, h1, h2, h3, h4⟩; have HP : Hid (ReadPost B rb tb db n c j y T wr (.returned (.tuple #[.int .i64 1, .nilIface])) w2) := Lib.hid ⟨rfl, h1, h2, h3, by first | exact h4 | exact (Below.refl B wr).drew.trans h4⟩; clear h1 h2 h3 h4)
      all_goals
        go_wp2
        go_roundw
        case rel => exact ⟨rfl, .inr ⟨rfl, HP.out⟩⟩
        case measure => simp [intOf]
    · have HP := Lib.hid hp
      clear hp
      go_wp2
      go_ret2
      exact HP.out
end Go.Proofs.YtgibmkgibkhemaaDoor
