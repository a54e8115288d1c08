/- diffDelta: up to its loop. -/
import Derived.Test.YtgibmkgibkhemaaDoorDdB
import Derived.Deep.OwnRows
namespace Go.Proofs.YtgibmkgibkhemaaDoor
open Go.Shelf Go.RowKit
set_option linter.unusedSimpArgs false
set_option linter.unusedVariables false

theorem write_own (B b : Nat) (r : Option Nat) (X C : List Nat) (v : Value) (w : World) (h : BufS w b r (u8s X)) (hown : OwnB w B v C) (hn1 : 1 ≤ C.length) (hnil : r = none → C.length ≤ 64) (hb : b < B) (hr : ∀ g, r = some g → g < B) (hlim : X.length + C.length ≤ 1000000) :
    Calls Tryd.prog 35 #[.pointer (some ⟨b, 0, none⟩), v] w (WrS b r (u8s (X ++ C)) (.tuple #[.int .i64 C.length, .nilIface]) w) := by
  obtain ⟨g, cap, rfl, hg, hlc, hcm, hlt, hc⟩ := hown.slice (by omega)
  exact writeN_s b r X C g 0 C.length cap w h rfl hn1 hnil (by omega) (fun e => by have := hr g e; omega) (fun j hj => by rw [Nat.zero_add]; exact hc j hj) hlim
/-- The first buffer ahead of the loop. -/
structure St0 (w wr : World) (b1 : Nat) (r1 : Option Nat) (X : List Nat) : Prop where
  buf : BufS wr b1 r1 (u8s X)
  bel : Below w.heap.size w wr
  l1 : w.heap.size ≤ b1
  m1 : ∀ g, r1 = some g → w.heap.size ≤ g
theorem St0.lt {w wr : World} {b1 : Nat} {r1 : Option Nat} {X : List Nat} (h : St0 w wr b1 r1 X) : b1 < wr.heap.size ∧ ∀ g, r1 = some g → g < wr.heap.size :=
  ⟨h.buf.lt, fun g hg => by have := h.buf; rw [hg] at this; exact this.ltr⟩
theorem St0.stay {w wr w' : World} {b1 : Nat} {r1 : Option Nat} {X : List Nat} (h : St0 w wr b1 r1 X) (hb : Below wr.heap.size wr w') : St0 w w' b1 r1 X :=
  ⟨h.buf.of_blocks (hb.block b1 h.lt.1) (fun g hg => hb.block g (h.lt.2 g hg)), h.bel.trans (hb.mono h.bel.size), h.l1, h.m1⟩
theorem St0.wrote {w wr w' : World} {b1 r' : Nat} {r1 : Option Nat} {X Y : List Nat} (h : St0 w wr b1 r1 X) (hb : BufS w' b1 (some r') (u8s Y)) (hk : Kp (fun k => k = b1 ∨ r1 = some k) wr w') (hr : r1 = some r' ∨ wr.heap.size ≤ r') : St0 w w' b1 (some r') Y :=
  ⟨hb, h.bel.trans (hk.to_below h.bel.size (fun i hi => hi.elim (fun e => e ▸ h.l1) (h.m1 i))), h.l1, fun g hg => by
    cases hg
    rcases hr with hr | hr
    · exact h.m1 _ hr
    · have := h.bel.size; omega⟩
theorem DfSt.start {w w4 w5 : World} {ix sb tb b1 r1 : Nat} {S T H : List Nat} (h : St0 w w4 b1 (some r1) H) (hk : Kp (fun k => k = ix) w4 w5) (hix : ix < w.heap.size) (hs : BR w sb S) (ht : BR w tb T) (hns : ix ≠ sb) (hnt : ix ≠ tb) (hT : ∀ c ∈ T, c < 256)
    (hi : S.length < 16 ∨ ∃ (xb e2 tn M : Nat) (T2 E2 : Nat → Nat), IxSt w5 ix xb e2 tn M M T2 E2 S.length ∧ w4.heap.size ≤ xb ∧ w4.heap.size ≤ e2 ∧ 1 ≤ tn ∧ tn ≤ 64 ∧ M ≤ 5000) :
    DfSt w (w5.alloc (.cells #[.slice none 0 0, .int .i64 0, .int .i8 0] bufT)) ix sb tb b1 w5.heap.size (some r1) none S T H [] [] 0 := by
  have hl := h.lt
  have hz := h.bel.size
  have hz5 := hk.size
  have hl1 := h.l1
  have hm1 := h.m1 r1 rfl
  have hr1 := hl.2 r1 rfl
  have hb1 := hl.1
  have ka : Kp (fun _ => False) w5 (w5.alloc (.cells #[.slice none 0 0, .int .i64 0, .int .i8 0] bufT)) := (Kp.refl _ _).alloc _
  have k45 : Kp (fun k => k = ix) w (w5.alloc (.cells #[.slice none 0 0, .int .i64 0, .int .i8 0] bufT)) := ((Kp.of_below h.bel (fun k => k = ix)).trans hk (fun _ _ e => e)).alloc _
  refine ⟨⟨?_, BufS.fresh w5, by omega, (fun e => by cases e; omega), (fun e => by cases e), (fun g _ e => by cases e)⟩, (fun e => by cases e), ?_, hs.keep k45 (fun e => hns e.symm), ht.keep k45 (fun e => hnt e.symm), hs.1, ht.1, hl1, by omega, (fun g hg => by cases hg; exact hm1), (fun g hg => by cases hg), (fun a ha => by cases ha), (fun c hc => by cases hc), hT, rfl, k45⟩
  · have h5 := h.buf.keep hk (by omega) (fun g hg => by cases hg; omega)
    have h6 := h5.keep ka id (fun _ _ e => e)
    have e : H ++ encs [] = H := List.append_nil H
    rw [e]; exact h6
  · rcases hi with hi | ⟨xb, e2, tn, M, T2, E2, hi, hx, he, h1, h2, h3⟩
    · exact .inl hi
    · have hxl := hi.lts (.inr (.inl rfl)); have hel := hi.lts (.inr (.inr rfl))
      refine .inr ⟨xb, e2, tn, M, T2, E2, hi.keep ka id id id, h1, h2, h3, ?_⟩
      rintro k (rfl | rfl | rfl)
      · exact ⟨by omega, by omega, (fun e => by cases e; omega), (fun e => by cases e)⟩
      · exact ⟨by omega, by omega, (fun e => by cases e; omega), (fun e => by cases e)⟩
      · exact ⟨by omega, by omega, (fun e => by cases e; omega), (fun e => by cases e)⟩
theorem DfSt.past {w wr : World} {ix sb tb b1 b2 : Nat} {r1 r2 : Option Nat} {S T H : List Nat} {ops : List DOp} {I : List Nat} {i : Nat} (h : DfSt w wr ix sb tb b1 b2 r1 r2 S T H ops I i) (hi : T.length ≤ i) (j : Nat) (hj : T.length ≤ j) : DfSt w wr ix sb tb b1 b2 r1 r2 S T H ops I j :=
  ⟨h.bufs, h.row, h.idx, h.src, h.tgt, h.ls, h.lt, h.l1, h.l2, h.m1, h.m2, h.ok, h.bytes, h.small, by rw [h.out, List.take_of_length_le hi, List.take_of_length_le hj], h.kept⟩
def DdRel (w : World) (ix sb tb b1 b2 : Nat) (S T H : List Nat) (iv : Value) (wr : World) : Prop :=
  ∃ (i : Nat) (r1 r2 : Option Nat) (ops : List DOp) (I : List Nat), iv = .int .i64 (i : Nat) ∧ i ≤ T.length + 1 ∧ DfSt w wr ix sb tb b1 b2 r1 r2 S T H ops I i
def DdIn (w : World) (ix sb tb b1 b2 : Nat) (r1 : Option Nat) (S T H : List Nat) (ops : List DOp) (iv : Value) (wr : World) : Prop :=
  ∃ (i : Nat) (r2 : Option Nat) (I : List Nat), iv = .int .i64 (i : Nat) ∧ i ≤ T.length ∧ DfSt w wr ix sb tb b1 b2 r1 r2 S T H ops I i
def DdPc (w : World) (ix sb tb b1 b2 : Nat) (r1 : Option Nat) (S T H : List Nat) (ops : List DOp) (i k : Nat) (jv : Value) (wr : World) : Prop :=
  ∃ (d : Nat) (r2 : Option Nat) (I : List Nat), jv = .int .i64 ((i + d : Nat) : Int) ∧ d ≤ k ∧ DfSt w wr ix sb tb b1 b2 r1 r2 S T H ops I (i + d)
def DdPost (ix : Nat) (S T : List Nat) (w : World) (e : Ending) (w' : World) : Prop :=
  ∃ (v : Value) (ops : List DOp), e = .returned v ∧ OwnB w' w.heap.size v (lebE S.length ++ lebE T.length ++ encs ops) ∧ (∀ a ∈ ops, opOk S.length a) ∧ outs S ops = T ∧ (∀ c ∈ encs ops, c < 256) ∧ Kp (fun k => k = ix) w w'
theorem lebE_pos (n : Nat) : 1 ≤ (lebE n).length := by unfold lebE; split <;> simp
end Go.Proofs.YtgibmkgibkhemaaDoor
