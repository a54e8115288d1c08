/- PatchDelta, DeltaApply, packAwake. -/
import Derived.Test.YtgibmkgibkhemaaDoorPatchA
namespace Go.Proofs.YtgibmkgibkhemaaDoor
open Go.RowKit
set_option linter.unusedSimpArgs false
set_option linter.unusedVariables false

theorem own_u8s {w : World} {B : Nat} {v : Value} (L : List Nat) (h : w.ownsRow B 5 1 v (u8s L).length (u8s L)) (hL : 0 < L.length) :
    ∃ g cap, v = .slice (some ⟨g, 0, none⟩) L.length cap ∧ L.length ≤ cap ∧ ∀ i, i < L.length → w.cell? ⟨g, i, none⟩ = some (.int .u8 (L.getD i 0 : Nat)) := by
  have hlen : (u8s L).length = L.length := by unfold u8s; rw [List.length_map]
  rw [hlen] at h
  rcases h.2 with ⟨_, h0⟩ | ⟨g, cap, cur, hv, _, hg, hc, _, _, htk⟩
  · omega
  · refine ⟨g, cap, hv, hc, fun i hi => ?_⟩
    rw [Nat.mul_one] at htk
    have hk : (cur.toList.take L.length)[i]? = (u8s L)[i]? := by rw [htk]
    rw [List.getElem?_take_of_lt hi] at hk
    rw [Lib.cell_of_heap hg]
    rw [← Array.getElem?_toList, hk]
    unfold u8s
    rw [List.getElem?_map, List.getElem?_eq_getElem hi, List.getD_eq_getElem?_getD, List.getElem?_eq_getElem hi]
    rfl
def OwnedPost (B : Nat) (L : List Nat) (w : World) (e : Ending) (w' : World) : Prop :=
  ∃ (g cap : Nat), e = .returned (.tuple #[.slice (some ⟨g, 0, none⟩) L.length cap, .nilIface]) ∧ L.length ≤ cap ∧ (∀ i, i < L.length → w'.cell? ⟨g, i, none⟩ = some (.int .u8 (L.getD i 0 : Nat))) ∧ Below B w w'
set_option maxRecDepth 100000 in
set_option maxHeartbeats 4000000 in
theorem PatchDelta_aw (sb db c1 c2 : Nat) (w : World) (hsb : sb < w.heap.size) (hdb : db < w.heap.size)
    (hc1 : 6 ≤ c1) (hc1m : c1 ≤ 9223372036854775807) (hc2 : 8 ≤ c2) (hc2m : c2 ≤ 9223372036854775807)
    (hs : ∀ i, i < 6 → w.cell? ⟨sb, i, none⟩ = some (.int .u8 (awS.getD i 0 : Nat))) (hd : ∀ i, i < 8 → w.cell? ⟨db, i, none⟩ = some (.int .u8 (awD.getD i 0 : Nat))) :
    Calls Tryd.prog 20 #[.slice (some ⟨sb, 0, none⟩) 6 c1, .slice (some ⟨db, 0, none⟩) 8 c2] w (OwnedPost w.heap.size [98, 99, 100, 120, 121] w) := by
  have HS := Lib.hid hs; have HD := Lib.hid hd
  clear hs hd
  go_enter Tryd.func20, Tryd.ntmps20
  go_wp2_with fail
  have hI := Lib.fresh_isBuffer 70 5 w
  generalize hW : w.alloc _ = W at hI ⊢
  have HW := Lib.hid hW
  have HI := Lib.hid hI
  have HB : Hid (Below w.heap.size w W) := Lib.hid (by subst hW; exact (Below.refl _ _).alloc (Nat.le_refl _) _)
  have hnr : Hid (Lib.NoRoom w.heap.size 5 W) := Lib.hid ⟨none, 0, 0, by subst hW; exact World.cell?_alloc_mark w _ 70 (0, 0) 0, by decide⟩
  have hBw : w.heap.size ≤ W.heap.size := HB.out.size
  clear hI hW
  with_reducible refine (patchDelta_aw w.heap.size w.heap.size sb db c1 c2 W HI.out hnr.out hBw hsb hdb hc1 hc1m hc2 hc2m (fun i hi => (HB.out.cell (p := ⟨sb, i, none⟩) hsb).trans (HS.out i hi)) (fun i hi => (HB.out.cell (p := ⟨db, i, none⟩) hdb).trans (HD.out i hi))).mono ?_
  rintro e w' ⟨rfl, hI2, hb2⟩
  have HI2 := Lib.hid hI2; have HB2 : Hid (Below w.heap.size w w') := Lib.hid (HB.out.trans hb2)
  clear hI2 hb2 HI hnr hBw
  go_wp2_with fail
  with_reducible refine (buf_bytes w.heap.size w.heap.size _ w' HI2.out).mono ?_
  rintro e w2 ⟨v, rfl, hown, n, rfl⟩
  obtain ⟨g, cap, hv, hg, hc⟩ := own_u8s [98, 99, 100, 120, 121] hown (by decide)
  subst hv
  have HC := Lib.hid hc; clear hc hown
  have HB3 : Hid (Below w.heap.size w (w'.drewN n)) := Lib.hid (below_drewN HB2.out n)
  go_wp2
  go_ret2
  exact ⟨g, cap, rfl, hg, HC.out, HB3.out⟩

def StrOk (L : List Nat) (w : World) (e : Ending) (w' : World) : Prop :=
  e = .returned (.tuple #[.string (strOfNums (L.map fun x : Nat => (x : Int))), .string ⟨#[]⟩]) ∧ Below w.heap.size w w'
def awSs : ByteArray := ⟨#[97, 98, 99, 100, 101, 102]⟩
def awDs : ByteArray := ⟨#[6, 5, 145, 1, 3, 2, 120, 121]⟩
set_option maxRecDepth 100000 in
set_option maxHeartbeats 4000000 in
theorem DeltaApply_aw (w : World) : Calls Tryd.prog 13 #[.string awSs, .string awDs] w (StrOk [98, 99, 100, 120, 121] w) := by
  have hconv := Lib.run_convert_string_bytes (P := Tryd.prog) w 9 38 5 awSs strKind bytesKind byteKind
  have hconv2 := Lib.run_convert_string_bytes (P := Tryd.prog) (Lib.bytesWorld w 5 awSs) 9 38 5 awDs strKind bytesKind byteKind
  have z1 : awSs.size = 6 := rfl
  have z2 : awDs.size = 8 := rfl
  have HZ1 := Lib.hid z1; have HZ2 := Lib.hid z2
  rw [z1] at hconv
  rw [z2] at hconv2
  clear z1 z2
  have hl1 : (Lib.bytesWorld w 5 awSs).heap.size = w.heap.size + 1 := by rw [Lib.bytesWorld_size]
  have hl2 : (Lib.bytesWorld (Lib.bytesWorld w 5 awSs) 5 awDs).heap.size = w.heap.size + 2 := by rw [Lib.bytesWorld_size, hl1]
  have HL1 := Lib.hid hl1; have HL2 := Lib.hid hl2
  have HA1 := Lib.hid (bytesAt_new w 5 awSs)
  have HA2 := Lib.hid (bytesAt_new (Lib.bytesWorld w 5 awSs) 5 awDs)
  have HB1 := Lib.hid (bytesBelow w 5 awSs)
  have HB2 := Lib.hid (bytesBelow (Lib.bytesWorld w 5 awSs) 5 awDs)
  have q1 := grownCap_ge w 6 0 5
  have q2 := grownCap_le_maxLen w 6 0 5 (by decide)
  have q3 := grownCap_ge (Lib.bytesWorld w 5 awSs) 8 0 5
  have q4 := grownCap_le_maxLen (Lib.bytesWorld w 5 awSs) 8 0 5 (by decide)
  rw [hl1] at hconv2 HA2
  clear hl1 hl2
  go_enter Tryd.func13, Tryd.ntmps13
  go_wp2_with fail
  clear hconv hconv2
  have HS1 : Hid (∀ i, i < 6 → (Lib.bytesWorld (Lib.bytesWorld w 5 awSs) 5 awDs).cell? ⟨w.heap.size, i, none⟩ = some (.int .u8 (awS.getD i 0 : Nat))) := Lib.hid fun i hi => by
    rw [HB2.out.cell (p := ⟨w.heap.size, i, none⟩) (by show w.heap.size < _; rw [HL1.out]; omega), (HA1.out i hi).1]
    rcases (by omega : i = 0 ∨ i = 1 ∨ i = 2 ∨ i = 3 ∨ i = 4 ∨ i = 5) with rfl | rfl | rfl | rfl | rfl | rfl <;> rfl
  have HS2 : Hid (∀ i, i < 8 → (Lib.bytesWorld (Lib.bytesWorld w 5 awSs) 5 awDs).cell? ⟨w.heap.size + 1, i, none⟩ = some (.int .u8 (awD.getD i 0 : Nat))) := Lib.hid fun i hi => by
    rw [(HA2.out i hi).1]
    rcases (by omega : i = 0 ∨ i = 1 ∨ i = 2 ∨ i = 3 ∨ i = 4 ∨ i = 5 ∨ i = 6 ∨ i = 7) with rfl | rfl | rfl | rfl | rfl | rfl | rfl | rfl <;> rfl
  have HP := Lib.hid (PatchDelta_aw w.heap.size (w.heap.size + 1) (grownCap w 6 0 5) (grownCap (Lib.bytesWorld w 5 awSs) 8 0 5) (Lib.bytesWorld (Lib.bytesWorld w 5 awSs) 5 awDs)
    (by rw [HL2.out]; omega) (by rw [HL2.out]; omega) q1 q2 q3 q4 HS1.out HS2.out)
  with_reducible refine HP.out.mono ?_
  rintro e w3 ⟨g, cap, rfl, hcap, hcell, hb⟩
  have HB3 : Hid (Below w.heap.size w w3) := Lib.hid ((HB1.out.trans (HB2.out.mono HB1.out.size)).trans (hb.mono (by rw [HL2.out]; omega)))
  have hcv : (convert 38 9 (.slice (some ⟨g, 0, none⟩) 5 cap)).run Tryd.prog w3 = .ok (.string (strOfNums (([98, 99, 100, 120, 121] : List Nat).map fun x : Nat => (x : Int)))) w3 :=
    run_convert_bytes_arg w3 38 5 bytesKind byteKind g 0 5 cap _ rfl (fun i hi => by
      rw [Nat.zero_add, hcell i hi]
      rcases (by omega : i = 0 ∨ i = 1 ∨ i = 2 ∨ i = 3 ∨ i = 4) with rfl | rfl | rfl | rfl | rfl <;> rfl) 9 strKind
  generalize hr : strOfNums (([98, 99, 100, 120, 121] : List Nat).map fun x : Nat => (x : Int)) = r at hcv
  have HR := Lib.hid hr
  clear hr hb hcell HP HS1 HS2 HA1 HA2 HB1 HB2 q1 q2 q3 q4
  go_wp2
  go_ret2
  exact ⟨by rw [HR.out]; rfl, HB3.out⟩

def BoolBelow (b : Bool) (w : World) (e : Ending) (w' : World) : Prop := e = .returned (.bool b) ∧ Below w.heap.size w w'
set_option maxRecDepth 100000 in
set_option maxHeartbeats 4000000 in
theorem packAwake_any (w : World) : Calls Tryd.prog 6 #[] w (BoolBelow true w) := by
  have hD := DeltaApply_aw w
  unfold awSs awDs at hD
  have HD := Lib.hid hD; clear hD
  go_enter Tryd.func6, Tryd.ntmps6
  go_wp2_with fail
  with_reducible refine HD.out.mono ?_
  rintro e w' ⟨rfl, hb⟩
  have HB := Lib.hid hb; clear hb
  generalize hr : strOfNums (([98, 99, 100, 120, 121] : List Nat).map fun x : Nat => (x : Int)) = r
  have hn : nb r = [98, 99, 100, 120, 121] := by rw [← hr, nb_strOfNums _ (by decide)]
  have hq : (r.toList == [98, 99, 100, 120, 121]) = true := by rw [beq_str, hn]; decide
  clear hr hn HD
  go_wp2
  go_ret
  exact ⟨rfl, HB.out⟩
end Go.Proofs.YtgibmkgibkhemaaDoor
