/- encoding/hex.Decode of an even number of bytes; DecodeString of forty; plumbing.IsHash. -/
import Derived.Test.YtnhegjjegamdfaaFmtShJ
import Derived.Test.YtnhegjjegamdfaaFmtRgW
import Derived.WalkKit
import Derived.Lib.Walk
import Derived.BigCall
import Derived.BigGuard
import Derived.Deep.Draws
import Derived.Laws.Strings3
import Derived.Deep.OwnRows
import Derived.Lib.Bytes
import Derived.Lib.HexFns2
import Derived.Laws.IdiomStrings
namespace Go.Proofs.YtnhegjjegamdfaaFmt
open Go.RowKit
set_option linter.unusedSimpArgs false
set_option linter.unusedVariables false

set_option maxHeartbeats 4000000 in
set_option maxRecDepth 100000 in
theorem hexDecode_any (bd od nd cd N : Nat) (f : Nat → Value) (bs os n cs : Nat) (xs : List Int) (w : World)
    (hx : xs.length = n) (hr : ∀ i, i < n → 0 ≤ xs.getD i 0 ∧ xs.getD i 0 < 256) (hsrc : ∀ i, i < n → w.cell? ⟨bs, os + i, none⟩ = some (.int .u8 (xs.getD i 0)))
    (hrow : w.rowIs bd 5 N f) (hfit : od + nd ≤ N) (hlen : n / 2 ≤ nd) (hne : bd ≠ bs) (hbig : n ≤ 4611686018427387903)
    (heven : n % 2 = 0) :
    Calls Tryf.prog 49 #[.slice (some ⟨bd, od, none⟩) nd cd, .slice (some ⟨bs, os, none⟩) n cs] w fun e w' =>
      e = .returned (.tuple #[.int .i64 ((Lib.Hx.decode (Lib.bytesOf xs)).1.length : Int), Lib.Hx.errVal 85 .nilIface (Lib.Hx.decode (Lib.bytesOf xs)).2]) ∧ w'.rowIs bd 5 N (Lib.Hx.rowP f od (Lib.Hx.decode (Lib.bytesOf xs)).1) ∧ w.grownBy w' (some bd) := by
  generalize hD0 : Lib.Hx.decode (Lib.bytesOf xs) = D
  obtain ⟨D1, D2⟩ := D
  have hD : Hid (Lib.Hx.decode (Lib.bytesOf xs) = (D1, D2)) := hD0
  clear hD0
  have HS : Hid (∀ i, i < n → w.cell? ⟨bs, os + i, none⟩ = some (.int .u8 (xs.getD i 0))) := hsrc
  have HR : Hid (∀ i, i < n → 0 ≤ xs.getD i 0 ∧ xs.getD i 0 < 256) := hr
  have HX0 : Hid (xs.length = n) := hx
  clear hsrc hr hx
  go_enter Tryf.func49, Tryf.ntmps49
  go_wp2
  go_loopw [6, 7] (fun vi vj wr => ∃ (k : Nat) (pre : List UInt8), 2 * k ≤ n ∧ vi = .int .i64 k ∧ vj = .int .i64 ((2 * k : Nat) : Int) ∧ Hid (Lib.Hx.Mid (Lib.bytesOf xs) k pre) ∧ Hid (wr.rowIs bd 5 N (Lib.Hx.rowP f od pre)) ∧ Hid (w.grownBy wr (some bd))) (fun _ vj _ => n - (RowKit.intOf vj).toNat)
  case atStart => exact ⟨0, [], Nat.zero_le _, rfl, rfl, Lib.Hx.mid_zero _, hrow.congr (fun j _ => Lib.Hx.rowP_nil f od j), Lib.Hx.grownBy_refl _ _⟩
  case round =>
    obtain ⟨k, pre, hk, rfl, rfl, hmid, hrw, hgr⟩ := hrel
    by_cases hlt : 2 * k + 1 < n
    · obtain ⟨x, hxk⟩ : ∃ x, x = xs.getD (2 * k) 0 := ⟨_, rfl⟩
      obtain ⟨y, hyk⟩ : ∃ y, y = xs.getD (2 * k + 1) 0 := ⟨_, rfl⟩
      have hcx : wr.cell? ⟨bs, os + 2 * k, none⟩ = some (.int .u8 x) := by rw [hxk]; exact hgr.out.cell (HS.out _ (by omega)) (by simp; omega)
      have hcy : wr.cell? ⟨bs, os + (2 * k + 1), none⟩ = some (.int .u8 y) := by rw [hyk]; exact hgr.out.cell (HS.out _ hlt) (by simp; omega)
      have hx0 : 0 ≤ x := by rw [hxk]; exact (HR.out _ (by omega)).1
      have hx1 : x < 256 := by rw [hxk]; exact (HR.out _ (by omega)).2
      have hy0 : 0 ≤ y := by rw [hyk]; exact (HR.out _ hlt).1
      have hy1 : y < 256 := by rw [hyk]; exact (HR.out _ hlt).2
      have HP : Hid ((Lib.bytesOf xs)[2 * k]? = some (UInt8.ofNat x.toNat)) := by rw [hxk]; exact Lib.Hx.bytes_at xs _ (by rw [HX0.out]; omega)
      have HQ : Hid ((Lib.bytesOf xs)[2 * k + 1]? = some (UInt8.ofNat y.toNat)) := by rw [hyk]; exact Lib.Hx.bytes_at xs _ (by rw [HX0.out]; omega)
      clear hxk hyk
      have hf1 : wr.frozen? ⟨bd, od + k, none⟩ = false := hrw.out.frozen _
      have hc1 : wr.cell? ⟨bd, od + k, none⟩ = some (Lib.Hx.rowP f od pre (od + k)) := hrw.out.cell (by omega)
      have hT : 2 * (k : Int) < (n : Int) - 1 := by omega
      have sx : x.toNat < Lib.Hx.rev.size := by rw [Lib.Hx.rev_size]; omega
      have sy : y.toNat < Lib.Hx.rev.size := by rw [Lib.Hx.rev_size]; omega
      go_wp2
      · have hv : (15 : Int) < ((Lib.Hx.rev[x.toNat]'sx).toNat : Int) := by assumption
        rw [Lib.Hx.rev_at x hx0 hx1] at hv
        have e := Lib.Hx.mid_bad1 hmid.out _ _ HP.out HQ.out (by omega)
        go_ret2
        obtain ⟨rfl, rfl⟩ := Prod.mk.inj (hD.out.symm.trans e)
        exact ⟨by rw [hmid.out.1, Lib.Hx.errVal_bad _ _ x hx0 hx1]; rfl, hrw.out, hgr.out⟩
      · have hv1 : ((Lib.Hx.rev[x.toNat]'sx).toNat : Int) ≤ 15 := by assumption
        have hv : (15 : Int) < ((Lib.Hx.rev[y.toNat]'sy).toNat : Int) := by assumption
        rw [Lib.Hx.rev_at x hx0 hx1] at hv1
        rw [Lib.Hx.rev_at y hy0 hy1] at hv
        have e := Lib.Hx.mid_bad2 hmid.out _ _ HP.out HQ.out (by omega) (by omega)
        go_ret2
        obtain ⟨rfl, rfl⟩ := Prod.mk.inj (hD.out.symm.trans e)
        exact ⟨by rw [hmid.out.1, Lib.Hx.errVal_bad _ _ y hy0 hy1]; rfl, hrw.out, hgr.out⟩
      · have hv1 : ((Lib.Hx.rev[x.toNat]'sx).toNat : Int) ≤ 15 := by assumption
        have hv2 : ((Lib.Hx.rev[y.toNat]'sy).toNat : Int) ≤ 15 := by assumption
        have ex := Lib.Hx.rev_at x hx0 hx1 sx
        have ey := Lib.Hx.rev_at y hy0 hy1 sy
        rw [ex] at hv1
        rw [ey] at hv2
        go_roundw
        case rel =>
          refine ⟨k + 1, pre ++ [UInt8.ofNat (Lib.Hx.v (UInt8.ofNat x.toNat) * 16 + Lib.Hx.v (UInt8.ofNat y.toNat))], by omega, by go_num, by first | go_num | (congr 1; omega), Lib.Hx.mid_step hmid.out _ _ HP.out HQ.out (by omega) (by omega), (hrw.out.set _ _).congr (fun j _ => ?_), Lib.Hx.grownBy_set hgr.out _ rfl _⟩
          have e3 := Lib.Hx.rowP_step f od pre (UInt8.ofNat (Lib.Hx.v (UInt8.ofNat x.toNat) * 16 + Lib.Hx.v (UInt8.ofNat y.toNat))) j
          rw [hmid.out.1, ← Lib.Hx.or_digits _ _ (by omega) (by omega), ← ex, ← ey] at e3
          exact e3
        case measure => simp [RowKit.intOf]; omega
    · by_cases hodd : n = 2 * k + 1
      · exfalso; omega
      · have hT : (n : Int) - 1 ≤ 2 * (k : Int) := by omega
        have hO : ((n : Int) % 2 == 1) = false := by simp; omega
        have hl : (Lib.bytesOf xs).length = 2 * k := by rw [Lib.bytesOf_length, HX0.out]; omega
        have e := Lib.Hx.mid_end hmid.out hl
        go_wp2
        go_ret2
        obtain ⟨rfl, rfl⟩ := Prod.mk.inj (hD.out.symm.trans e)
        exact ⟨by rw [hmid.out.1]; rfl, hrw.out, hgr.out⟩

/-- What a decoding hands back, as far as one asks: a slice and an error of which one knows only that it is nil or an interface. -/
def DecPost (w : World) (e : Ending) (w' : World) : Prop :=
  ∃ (n : Nat) (o : Lib.Hx.Out), e = .returned (.tuple #[.slice (some ⟨w.heap.size, 0, none⟩) n 20, Lib.Hx.errVal 85 .nilIface o]) ∧ Below w.heap.size w w'
set_option maxHeartbeats 400000 in
theorem decLen_any (w : World) : Calls Tryf.prog 48 #[.int .i64 40] w fun e w' => e = .returned (.int .i64 20) ∧ w' = w := by
  go_enter Tryf.func48, Tryf.ntmps48
  go_wp2
  go_ret
  exact ⟨rfl, rfl⟩
set_option maxHeartbeats 4000000 in
set_option maxRecDepth 100000 in
theorem hexDecStr_any (s : ByteArray) (w : World) (h40 : s.size = 40) : Calls Tryf.prog 41 #[.string s] w (DecPost w) := by
  have hdl0 := Lib.Hx.decode_len s.data.toList
  rw [← Lib.size_eq, h40] at hdl0
  have hcv := fun w => run_bytes_of_string (P := Tryf.prog) w 9 51 5 s strKind bytesKind byteKind
  have hmk : ∀ w : World, (Instr.makeSlice 51 (.int .i64 20) (.int .i64 20)).run Tryf.prog w = .ok (.slice (some ⟨w.heap.size, 0, none⟩) 20 20) (w.alloc (.cells (madeCells #[.int .u8 0] 20) 5)) := fun w =>
    run_make_row' (P := Tryf.prog) 51 5 (.int .u8 0) 1 bytesKind (by kernel_rfl) rfl .i64 .i64 20 (by omega) (by omega) w
  rw [h40] at hcv
  have H40i : (s.size : Int) = 40 := by omega
  go_enter Tryf.func41, Tryf.ntmps41
  go_wp2_with fail
  refine (decLen_any _).mono ?_
  rintro e w1 ⟨rfl, rfl⟩
  go_wp2_with fail
  have hsz : (w1.alloc (.cells (madeCells #[.int .u8 0] 20) 5)).heap.size = w1.heap.size + 1 := by simp
  have hB2 : ∀ o, Below w1.heap.size w1 ((w1.alloc (.cells (madeCells #[.int .u8 0] 20) 5)).alloc o).drew := fun o => (((Below.refl _ w1).alloc (Nat.le_refl _) _).alloc (by simp) o).drew
  generalize grownCap (w1.alloc (.cells (madeCells #[.int .u8 0] 20) 5)) 40 0 5 = cap
  have hc := hexDecode_any w1.heap.size 0 20 20 20 (fun _ => .int .u8 0) (w1.heap.size + 1) 0 40 cap (Lib.Hx.numsOf s) ((w1.alloc (.cells (madeCells #[.int .u8 0] 20) 5)).alloc (.cells (bytesRow s cap) 5 ((bytesRow s cap).size, (bytesRow s cap).size + 1))).drew (by rw [Lib.Hx.numsOf_length, h40]) (fun i _ => Lib.Hx.numsOf_range s i)
    (fun i hi => by
      show ((w1.alloc (.cells (madeCells #[.int .u8 0] 20) 5)).alloc _).cell? _ = _
      rw [← hsz, Nat.zero_add, World.cell?_alloc_mark, bytesRow_at s _ i (by show i < s.size; rw [h40]; exact hi), Lib.Hx.numsOf_at s i (by show i < s.size; rw [h40]; exact hi)])
    (((World.rowIs_made w1 (.int .u8 0) 20 5).alloc _).drew) (by omega) (Nat.le_refl _) (by omega) (by omega) (by omega)
  rw [Lib.Hx.bytesOf_numsOf] at hc
  generalize Lib.Hx.decode s.data.toList = D at hc hdl0
  obtain ⟨D1, D2⟩ := D
  refine hc.mono ?_
  rintro e w2 ⟨rfl, hrow', hgrow⟩
  have HB : Hid (Below w1.heap.size w1 w2) := (hB2 _).grown hgrow (by simp; omega) (fun k hk => by cases hk; exact Nat.le_refl _)
  clear hrow' hgrow hc
  have hdl : D1.length ≤ 20 := hdl0
  have c1 : (0 : Int) ≤ (D1.length : Int) := by omega
  have c2 : (D1.length : Int) ≤ 20 := by omega
  go_wp2
  go_ret2
  exact ⟨_, D2, rfl, HB.out⟩

def AnyBool (w : World) (e : Ending) (w' : World) : Prop := ∃ B : Bool, e = .returned (.bool B) ∧ Below w.heap.size w w'
set_option maxHeartbeats 4000000 in
set_option maxRecDepth 100000 in
theorem IsHash_any (s : ByteArray) (w : World) : Calls Tryf.prog 35 #[.string s] w (AnyBool w) := by
  by_cases h40 : s.size = 40
  · have HX := Lib.hid (fun w => hexDecStr_any s w h40)
    have hq : ((s.size : Int) == 40) = true := by rw [h40]; rfl
    clear h40
    go_enter Tryf.func35, Tryf.ntmps35
    go_wp2_with fail
    with_reducible refine (HX.out _).mono ?_
    rintro e w1 ⟨n, o, rfl, hb⟩
    have HB := Lib.hid hb
    clear hb
    cases o with
    | ok =>
      unfold Lib.Hx.errVal
      go_wp2
      go_ret
      exact ⟨_, rfl, HB.out⟩
    | odd =>
      unfold Lib.Hx.errVal
      go_wp2
      go_ret
      exact ⟨_, rfl, HB.out⟩
    | bad c =>
      unfold Lib.Hx.errVal
      go_wp2
      go_ret
      exact ⟨_, rfl, HB.out⟩
  · have hq : ((s.size : Int) == 40) = false := beq_eq_false_iff_ne.mpr (by omega)
    clear h40
    go_enter Tryf.func35, Tryf.ntmps35
    go_wp2
    go_ret
    exact ⟨_, rfl, Below.refl _ _⟩
set_option maxHeartbeats 400000 in
theorem IsExact_any (t : ByteArray) (X Y : List Nat) (f : Bool) (w : World) (h : Spec1 t X Y) (hX : X ≠ []) (hf : bx t 0 = 43 ↔ f = true) :
    Calls Tryf.prog 25 #[.string t] w (AnyBool w) := by
  have HS := Lib.hid (fun w => Src_any t X Y f w h hX hf)
  clear h hX hf
  go_enter Tryf.func25, Tryf.ntmps25
  go_wp2_with fail
  with_reducible refine (HS.out _).mono ?_
  rintro e w1 ⟨r, rfl, _, hb1⟩
  have HB1 := Lib.hid hb1
  clear hb1
  go_wp2_with fail
  with_reducible refine (IsHash_any r _).mono ?_
  rintro e w2 ⟨B, rfl, hb2⟩
  have HB2 := Lib.hid (HB1.out.trans (hb2.mono HB1.out.size))
  clear hb2
  go_wp2
  go_ret
  exact ⟨_, rfl, HB2.out⟩
set_option maxHeartbeats 400000 in
theorem specStr_any (t : ByteArray) (w : World) : Calls Tryf.prog 22 #[.string t] w fun e w' => e = .returned (.string t) ∧ w = w' := by
  go_enter Tryf.func22, Tryf.ntmps22
  go_wp2
  go_ret
  exact ⟨rfl, rfl⟩
set_option maxHeartbeats 400000 in
theorem IsDelete_any (t : ByteArray) (w : World) (h1 : 1 ≤ t.size) (hs : t.size ≤ 1000) (h58 : bx t 0 ≠ 58) : Calls Tryf.prog 24 #[.string t] w fun e w' => e = .returned (.bool false) ∧ Below w.heap.size w w' := by
  have hc : ((⟨#[58]⟩ : ByteArray)[0]'(by decide)).toNat = 58 := rfl
  have hb := bx_get t 0 (by omega)
  have h0 : (0 : Int) < t.size := by omega
  have q : ((bx t 0 : Int) == 58) = false := beq_eq_false_iff_ne.mpr (by omega)
  generalize bx t 0 = c at hb q
  clear h58
  go_enter Tryf.func24, Tryf.ntmps24
  go_wp2
  go_quiet (fail)
  go_wp2
  go_ret
  exact ⟨rfl, below_drewN (Below.refl _ _) _⟩
end Go.Proofs.YtnhegjjegamdfaaFmt
