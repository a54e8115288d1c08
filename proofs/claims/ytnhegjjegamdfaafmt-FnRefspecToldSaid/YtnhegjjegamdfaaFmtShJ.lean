/- A hash as text: encoding/hex over twenty bytes; HashOf; gitAwake. -/
import Derived.Test.YtnhegjjegamdfaaFmtShI
import Derived.WalkKit
import Derived.Lib.Walk
import Derived.BigCall
import Derived.BigGuard
import Derived.Deep.Draws
import Derived.Laws.Strings3
import Derived.Deep.OwnRows
import Derived.Lib.Bytes
import Derived.Lib.HexFns
namespace Go.Proofs.YtnhegjjegamdfaaFmt
open Go.RowKit
set_option linter.unusedSimpArgs false
set_option linter.unusedVariables false

set_option maxHeartbeats 2000000 in
set_option maxRecDepth 100000 in
theorem hexEncode_any (bd od nd cd N : Nat) (f : Nat → Value) (bs os n cs : Nat) (xs : List Int) (w : World)
    (hx : xs.length = n) (hr : ∀ i, i < n → 0 ≤ xs.getD i 0 ∧ xs.getD i 0 < 256) (hsrc : ∀ i, i < n → w.cell? ⟨bs, os + i, none⟩ = some (.int .u8 (xs.getD i 0)))
    (hrow : w.rowIs bd 5 N f) (hfit : od + nd ≤ N) (hlen : 2 * n ≤ nd) (hne : bd ≠ bs) (hbig : n ≤ 4611686018427387903) :
    Calls Tryf.prog 56 #[.slice (some ⟨bd, od, none⟩) nd cd, .slice (some ⟨bs, os, none⟩) n cs] w fun e w' => e = .returned (.int .i64 ((n : Int) * 2)) ∧ w'.rowIs bd 5 N (Lib.Hx.row f od (Lib.bytesOf xs) n) ∧ w.grownBy w' (some bd) := by
  have HS : Hid (∀ i, i < n → w.cell? ⟨bs, os + i, none⟩ = some (.int .u8 (xs.getD i 0))) := hsrc
  have HR : Hid (∀ i, i < n → 0 ≤ xs.getD i 0 ∧ xs.getD i 0 < 256) := hr
  have HX0 : Hid (xs.length = n) := hx
  clear hsrc hr hx
  go_enter Tryf.func56, Tryf.ntmps56
  go_wp2
  go_loopw [5, 10] (fun vj vi wr => ∃ k : Nat, k ≤ n ∧ vi = .int .i64 k ∧ vj = .int .i64 ((2 * k : Nat) : Int) ∧ Hid (wr.rowIs bd 5 N (Lib.Hx.row f od (Lib.bytesOf xs) k)) ∧ Hid (w.grownBy wr (some bd))) (fun _ vi _ => n - (intOf vi).toNat)
  case atStart => exact ⟨0, Nat.zero_le _, rfl, rfl, hrow.congr (fun j _ => Lib.Hx.row_zero f od _ j), Lib.Hx.grownBy_refl _ _⟩
  case round =>
    obtain ⟨k, hk, rfl, rfl, hrw, hgr⟩ := hrel
    obtain ⟨x, hxk⟩ : ∃ x, x = xs.getD k 0 := ⟨_, rfl⟩
    have hcx : k < n → wr.cell? ⟨bs, os + k, none⟩ = some (.int .u8 x) := fun h => by rw [hxk]; exact hgr.out.cell (HS.out k h) (by simp; omega)
    have hx0 : k < n → 0 ≤ x := fun h => by rw [hxk]; exact (HR.out k h).1
    have hx1 : k < n → x < 256 := fun h => by rw [hxk]; exact (HR.out k h).2
    have HX : Hid (x = xs.getD k 0) := hxk
    clear hxk
    have hf1 : wr.frozen? ⟨bd, od + 2 * k, none⟩ = false := hrw.out.frozen _
    have hc1 : k < n → wr.cell? ⟨bd, od + 2 * k, none⟩ = some (Lib.Hx.row f od (Lib.bytesOf xs) k (od + 2 * k)) := fun h => hrw.out.cell (by omega)
    have hf2 : ∀ v, (wr.setCell ⟨bd, od + 2 * k, none⟩ v).frozen? ⟨bd, od + (2 * k + 1), none⟩ = false := fun v => (hrw.out.set _ v).frozen _
    have hc2 : k < n → ∀ v, (wr.setCell ⟨bd, od + 2 * k, none⟩ v).cell? ⟨bd, od + (2 * k + 1), none⟩ = some (Lib.Hx.row f od (Lib.bytesOf xs) k (od + (2 * k + 1))) := fun h v => by
      have := (hrw.out.set (od + 2 * k) v).cell (i := od + (2 * k + 1)) (by omega)
      rwa [if_neg (by omega)] at this
    go_wp2
    · have hlt : k < n := by assumption
      go_roundw
      case rel =>
        refine ⟨k + 1, by omega, by go_num, by first | go_num | (congr 1; omega), ((hrw.out.set _ _).set _ _).congr (fun j _ => ?_), Lib.Hx.grownBy_set (Lib.Hx.grownBy_set hgr.out _ rfl _) _ rfl _⟩
        have e1 := Lib.Hx.dig_hi x (hx0 hlt) (hx1 hlt) (by have := hx0 hlt; have := hx1 hlt; show _ < 16; omega)
        have e2 := Lib.Hx.dig_lo x (hx0 hlt) (hx1 hlt) (by have := hx0 hlt; show _ < 16; omega)
        have e3 := Lib.Hx.row_step f od (Lib.bytesOf xs) k _ (Lib.Hx.bytes_at xs k (by rw [HX0.out]; exact hlt)) j
        rw [← HX.out, ← e1, ← e2] at e3
        exact e3
      case measure => simp [intOf]; omega
    · have hk2 : k = n := by omega
      subst hk2
      go_ret
      exact ⟨rfl, hrw.out, hgr.out⟩

def hexA : ByteArray := ⟨#[99, 101, 48, 49, 51, 54, 50, 53, 48, 51, 48, 98, 97, 56, 100, 98, 97, 57, 48, 54, 102, 55, 53, 54, 57, 54, 55, 102, 57, 101, 57, 99, 97, 51, 57, 52, 52, 54, 52, 97]⟩
def sumI : List Int := sumN.map fun x : Nat => (x : Int)
theorem sumI_at (i : Nat) (hi : i < 20) : sumI.getD i 0 = (numL sumN i : Nat) := by
  have h : ∀ i : Nat, i < 20 → sumI.getD i 0 = (numL sumN i : Nat) := by decide +kernel
  exact h i hi
theorem sumI_byte (i : Nat) (hi : i < 20) : 0 ≤ sumI.getD i 0 ∧ sumI.getD i 0 < 256 := by
  have h : ∀ i : Nat, i < 20 → 0 ≤ sumI.getD i 0 ∧ sumI.getD i 0 < 256 := by decide +kernel
  exact h i hi
theorem hexA_eq : strOfNums (Lib.Hx.nums (Lib.bytesOf sumI)) = hexA := by kernel_rfl
def StrPost (s : ByteArray) (w : World) (e : Ending) (w' : World) : Prop := e = .returned (.string s) ∧ Below w.heap.size w w'
set_option maxHeartbeats 400000 in
theorem encLen_any (w : World) : Calls Tryf.prog 55 #[.int .i64 20] w fun e w' => e = .returned (.int .i64 40) ∧ w' = w := by
  go_enter Tryf.func55, Tryf.ntmps55
  go_wp2
  go_ret
  exact ⟨rfl, rfl⟩
set_option maxHeartbeats 2000000 in
set_option maxRecDepth 100000 in
theorem hexStr_any (bs cs : Nat) (w : World) (hb : bs < w.heap.size) (hs : ∀ i, i < 20 → w.cell? ⟨bs, 0 + i, none⟩ = some (.int .u8 (numL sumN i : Nat))) :
    Calls Tryf.prog 45 #[.slice (some ⟨bs, 0, none⟩) 20 cs] w (StrPost hexA w) := by
  have hmk : ∀ w : World, (Instr.makeSlice 51 (.int .i64 40) (.int .i64 40)).run Tryf.prog w = .ok (.slice (some ⟨w.heap.size, 0, none⟩) 40 40) (w.alloc (.cells (madeCells #[.int .u8 0] 40) 5)) := fun w =>
    run_make_row' (P := Tryf.prog) 51 5 (.int .u8 0) 1 bytesKind u8Info rfl .i64 .i64 40 (by decide) (by decide) w
  have HS := Lib.hid hs; clear hs
  go_enter Tryf.func45, Tryf.ntmps45
  go_wp2_with fail
  refine (encLen_any _).mono ?_
  rintro e w1 ⟨rfl, rfl⟩
  go_wp2_with fail
  refine (hexEncode_any w1.heap.size 0 40 40 40 (fun _ => .int .u8 0) bs 0 20 cs sumI _ (by decide) sumI_byte (fun i hi => by rw [sumI_at i hi]; exact (((Below.refl _ w1).alloc (Nat.le_refl _) _).cell (p := ⟨bs, 0 + i, none⟩) hb).trans (HS.out i hi)) (World.rowIs_made w1 _ _ _) (by omega) (by omega) (by omega) (by omega)).mono ?_
  rintro e w2 ⟨rfl, hrow', hgrow⟩
  have g := run_convert_bytes_arg (P := Tryf.prog) w2 51 5 bytesKind byteKind w1.heap.size 0 40 40 (Lib.Hx.nums (Lib.bytesOf sumI)) (by rw [Lib.Hx.nums_length, Lib.bytesOf_length]; decide) (fun i hi => by rw [Nat.zero_add, hrow'.cell hi, Lib.Hx.row_in _ _ _ _ hi]) 9 strKind
  rw [hexA_eq] at g
  have HG : Hid (Below w1.heap.size w1 w2) := Lib.hid (((Below.refl _ w1).alloc (Nat.le_refl _) _).grown hgrow (by simp) (fun k hk => by cases hk; exact Nat.le_refl _))
  clear hrow' hgrow
  go_wp2
  go_ret
  exact ⟨rfl, HG.out⟩
end Go.Proofs.YtnhegjjegamdfaaFmt
