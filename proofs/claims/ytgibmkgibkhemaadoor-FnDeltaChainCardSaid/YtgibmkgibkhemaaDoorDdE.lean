/- DiffDelta: what it makes leads from the one text to the other. -/
import Derived.Test.YtgibmkgibkhemaaDoorDdD
namespace Go.Proofs.YtgibmkgibkhemaaDoor
open Go.Shelf Go.RowKit
set_option linter.unusedSimpArgs false
set_option linter.unusedVariables false

def DfPost (S T : List Nat) (w : World) (e : Ending) (w' : World) : Prop :=
  ∃ (v : Value) (ops : List DOp), e = .returned v ∧ OwnB w' w.heap.size v (deltaL S ops) ∧ (∀ a ∈ ops, opOk S.length a) ∧ outs S ops = T ∧ (∀ c ∈ encs ops, c < 256) ∧ Below w.heap.size w w'
theorem OwnB.mono {w : World} {B B' : Nat} {v : Value} {L : List Nat} (h : OwnB w B v L) (hb : B' ≤ B) : OwnB w B' v L :=
  ⟨h.1, h.2.imp id fun ⟨g, cap, cur, h1, h2, h3⟩ => ⟨g, cap, cur, h1, Nat.le_trans hb h2, h3⟩⟩
theorem DdPost.up {S T : List Nat} {w w1 w' : World} {e : Ending} (hb : Below w.heap.size w w1) (h : DdPost w.heap.size S T w1 e w') : DfPost S T w e w' := by
  obtain ⟨v, ops, he, hown, hok, hout, hlt, hk⟩ := h
  refine ⟨v, ops, he, ?_, hok, hout, hlt, hb.trans (hk.to_below hb.size (fun i e => by rw [e]; exact Nat.le_refl _))⟩
  unfold deltaL
  rw [hout, ← List.append_assoc]
  exact hown.mono hb.size
set_option maxHeartbeats 1000000 in
theorem DiffDelta_any (sb tb c1 c2 : Nat) (S T : List Nat) (w : World) (hS : BR w sb S) (hT : BR w tb T)
    (hSl : S.length ≤ 1000) (hTl : T.length ≤ 1000) (hS2 : ∀ j, S.getD j 0 < 256) (hT2 : ∀ j, T.getD j 0 < 256) (hT3 : ∀ c ∈ T, c < 256) :
    Calls Tryd.prog 21 #[.slice (some ⟨sb, 0, none⟩) S.length c1, .slice (some ⟨tb, 0, none⟩) T.length c2] w (DfPost S T w) := by
  have ka : Kp (fun _ => False) w (w.alloc (.cells #[.slice none 0 0, .slice none 0 0, .int .i64 0] ixT)) := (Kp.refl _ _).alloc _
  have HD := Lib.hid (diffDelta_any w.heap.size sb tb c1 c2 S T (w.alloc (.cells #[.slice none 0 0, .slice none 0 0, .int .i64 0] ixT)) (heap_new _ _) (hS.keep ka id) (hT.keep ka id) (by have := hS.1; omega) (by have := hT.1; omega) hSl hTl hS2 hT2 hT3)
  have HB : Hid (Below w.heap.size w (w.alloc (.cells #[.slice none 0 0, .slice none 0 0, .int .i64 0] ixT))) := Lib.hid ((Below.refl _ _).alloc (Nat.le_refl _) _)
  obtain ⟨n, hn⟩ : ∃ n, n = S.length := ⟨_, rfl⟩
  obtain ⟨m, hm⟩ : ∃ m, m = T.length := ⟨_, rfl⟩
  rw [← hn, ← hm] at HD ⊢
  clear ka hS hT hS2 hT2 hT3 hn hm hSl hTl
  go_enter Tryd.func21, Tryd.ntmps21
  go_wp2_with fail
  with_reducible refine HD.out.mono ?_
  rintro e w2 hp
  have HP := Lib.hid (hp.up HB.out)
  obtain ⟨v, ops, rfl, hr⟩ := HP.out
  have HR := Lib.hid hr
  clear hr HP hp HD HB
  go_wp2
  go_ret
  exact ⟨v, ops, rfl, HR.out⟩

def MakePost (s t : ByteArray) (w : World) (e : Ending) (w' : World) : Prop :=
  ∃ (r : ByteArray) (ops : List DOp), e = .returned (.string r) ∧ nb r = deltaL (nb s) ops ∧ (∀ a ∈ ops, opOk s.size a) ∧ outs (nb s) ops = nb t ∧ (∀ c ∈ encs ops, c < 256) ∧ Below w.heap.size w w'
set_option maxRecDepth 100000 in
set_option maxHeartbeats 4000000 in
theorem DeltaMake_any (s t : ByteArray) (w : World) (hS : s.size ≤ 1000) (hT : t.size ≤ 1000) :
    Calls Tryd.prog 14 #[.string s, .string t] w (MakePost s t w) := by
  have hconv := Lib.run_convert_string_bytes (P := Tryd.prog) w 9 38 5 s strKind bytesKind byteKind
  have hconv2 := Lib.run_convert_string_bytes (P := Tryd.prog) (Lib.bytesWorld w 5 s) 9 38 5 t strKind bytesKind byteKind
  have hl1 : (Lib.bytesWorld w 5 s).heap.size = w.heap.size + 1 := by rw [Lib.bytesWorld_size]
  have hl2 : (Lib.bytesWorld (Lib.bytesWorld w 5 s) 5 t).heap.size = w.heap.size + 2 := by rw [Lib.bytesWorld_size, hl1]
  have HL1 := Lib.hid hl1; have HL2 := Lib.hid hl2
  have HA1 := Lib.hid (bytesAt_new w 5 s)
  have HA2 := Lib.hid (bytesAt_new (Lib.bytesWorld w 5 s) 5 t)
  have HB1 := Lib.hid (bytesBelow w 5 s)
  have HB2 := Lib.hid (bytesBelow (Lib.bytesWorld w 5 s) 5 t)
  rw [hl1] at hconv2 HA2
  have HS1 : Hid (BR (Lib.bytesWorld (Lib.bytesWorld w 5 s) 5 t) w.heap.size (nb s)) := Lib.hid ⟨by rw [HL2.out]; omega, fun i hi => by
    rw [HB2.out.cell (p := ⟨w.heap.size, i, none⟩) (by show w.heap.size < _; rw [HL1.out]; omega), (HA1.out i (by rwa [nb_length] at hi)).1]
    rfl⟩
  have HS2 : Hid (BR (Lib.bytesWorld (Lib.bytesWorld w 5 s) 5 t) (w.heap.size + 1) (nb t)) := Lib.hid ⟨by rw [HL2.out]; omega, fun i hi => by
    rw [(HA2.out i (by rwa [nb_length] at hi)).1]
    rfl⟩
  have HP := Lib.hid (DiffDelta_any w.heap.size (w.heap.size + 1) (grownCap w s.size 0 5) (grownCap (Lib.bytesWorld w 5 s) t.size 0 5) (nb s) (nb t) (Lib.bytesWorld (Lib.bytesWorld w 5 s) 5 t)
    HS1.out HS2.out (by rw [nb_length]; exact hS) (by rw [nb_length]; exact hT) (fun j => bx_lt s j) (fun j => bx_lt t j) (fun c hc => nb_lt hc))
  rw [nb_length, nb_length] at HP
  clear hl1 hl2 HS1 HS2 HA1 HA2
  go_enter Tryd.func14, Tryd.ntmps14
  go_wp2_with fail
  clear hconv hconv2
  with_reducible refine HP.out.mono ?_
  rintro e w3 ⟨v, ops, rfl, hown, hok, hout, hlt, hb⟩
  rw [nb_length] at hok
  have HB3 : Hid (Below w.heap.size w w3) := Lib.hid ((HB1.out.trans (HB2.out.mono HB1.out.size)).trans (hb.mono (by rw [HL2.out]; omega)))
  have hT1 : (outs (nb s) ops).length ≤ 1000 := by rw [hout, nb_length]; exact hT
  have hdl := deltaL_len (S := nb s) (by rw [nb_length]; exact hok) hT1
  have HDL : Hid (∀ c ∈ deltaL (nb s) ops, c < 256) := Lib.hid (deltaL_lt (by rw [nb_length]; exact hS) hT1 hlt)
  have HOK := Lib.hid hok; have HO := Lib.hid hout; have HLT := Lib.hid hlt
  generalize hL : deltaL (nb s) ops = L at hown hdl HDL
  obtain ⟨g, cap, rfl, -, -, -, -, hcell⟩ := hown.slice (by omega)
  have HLL := Lib.hid hL
  have hcv : (convert 38 9 (.slice (some ⟨g, 0, none⟩) L.length cap)).run Tryd.prog w3 = .ok (.string (strOfNums (L.map fun x : Nat => (x : Int)))) w3 :=
    run_convert_bytes_arg w3 38 5 bytesKind byteKind g 0 L.length cap _ (by simp) (fun i hi => by
      rw [Nat.zero_add, hcell i hi]
      simp [List.getD_eq_getElem?_getD, hi]) 9 strKind
  have HR : Hid (nb (strOfNums (L.map fun x : Nat => (x : Int))) = L) := Lib.hid (nb_strOfNums L HDL.out)
  generalize strOfNums (L.map fun x : Nat => (x : Int)) = r at hcv HR
  clear hb hcell HP HB1 HB2 hok hout hlt hT1 hdl hown hL HDL
  go_wp2
  go_ret
  exact ⟨r, ops, rfl, by rw [HR.out, HLL.out], HOK.out, HO.out, HLT.out, HB3.out⟩
end Go.Proofs.YtgibmkgibkhemaaDoor
