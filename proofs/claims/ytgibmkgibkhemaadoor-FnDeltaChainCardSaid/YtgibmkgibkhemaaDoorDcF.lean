/- PatchDelta and DeltaApply of whatever operations. -/
import Derived.Test.YtgibmkgibkhemaaDoorAwakeL
import Derived.Test.YtgibmkgibkhemaaDoorDcE
namespace Go.Proofs.YtgibmkgibkhemaaDoor
open Go.RowKit
set_option linter.unusedSimpArgs false
set_option linter.unusedVariables false

def deltaL (S : List Nat) (ops : List DOp) : List Nat := lebE S.length ++ (lebE (outs S ops).length ++ encs ops)
theorem deltaL_len {S : List Nat} {ops : List DOp} (h : ∀ a ∈ ops, opOk S.length a) (hT : (outs S ops).length ≤ 1000) : (deltaL S ops).length ≤ 2004 ∧ 2 ≤ (deltaL S ops).length := by
  have h1 := encs_len S rfl h
  have h2 := lebE_len S.length; have h3 := lebE_len (outs S ops).length
  have h4 : ∀ n, 1 ≤ (lebE n).length := fun n => by unfold lebE; split <;> simp
  have h5 := h4 S.length; have h6 := h4 (outs S ops).length
  unfold deltaL
  rw [List.length_append, List.length_append]
  omega
theorem deltaL_lt {S : List Nat} {ops : List DOp} (hS : S.length ≤ 1000) (hT : (outs S ops).length ≤ 1000) (h : ∀ c ∈ encs ops, c < 256) : ∀ c ∈ deltaL S ops, c < 256 := by
  intro c hc
  unfold deltaL at hc
  rcases List.mem_append.mp hc with hc | hc
  · exact lebE_lt (by omega) c hc
  · rcases List.mem_append.mp hc with hc | hc
    · exact lebE_lt (by omega) c hc
    · exact h c hc
set_option maxRecDepth 100000 in
set_option maxHeartbeats 4000000 in
theorem PatchDelta_any (sb db c1 c2 : Nat) (S : List Nat) (ops : List DOp) (w : World) (hsb : sb < w.heap.size) (hdb : db < w.heap.size)
    (hS1 : 1 ≤ S.length) (hS : S.length ≤ 1000) (hc1 : S.length ≤ c1) (hc1m : c1 ≤ 9223372036854775807) (hc2 : (deltaL S ops).length ≤ c2) (hc2m : c2 ≤ 9223372036854775807)
    (hT1 : 1 ≤ (outs S ops).length) (hT : (outs S ops).length ≤ 1000) (hok : ∀ a ∈ ops, opOk S.length a) (hlt : ∀ c ∈ encs ops, c < 256)
    (hs : ∀ i, i < S.length → w.cell? ⟨sb, i, none⟩ = some (.int .u8 (S.getD i 0 : Nat))) (hd : ∀ i, i < (deltaL S ops).length → w.cell? ⟨db, i, none⟩ = some (.int .u8 ((deltaL S ops).getD i 0 : Nat))) :
    Calls Tryd.prog 20 #[.slice (some ⟨sb, 0, none⟩) S.length c1, .slice (some ⟨db, 0, none⟩) (deltaL S ops).length c2] w (OwnedPost w.heap.size (outs S ops) w) := by
  have HS := Lib.hid hs; have HD := Lib.hid hd
  have hdl := deltaL_len hok hT
  have HOK := Lib.hid hok; have HLT := Lib.hid hlt
  obtain ⟨L, hL⟩ : ∃ L, L = outs S ops := ⟨_, rfl⟩
  have HL := Lib.hid hL
  have HPD := Lib.hid (fun (B b : Nat) (w : World) (h1 : IsBuf B b [] w) (h2 : Lib.NoRoom b (outs S ops).length w) (h3 : B ≤ w.heap.size) (h4 : sb < B) (h5 : db < B) (h6 : Sl db 0 (deltaL S ops).length (.slice (some ⟨db, 0, none⟩) (deltaL S ops).length c2)) (h7 : ∀ i, i < S.length → w.cell? ⟨sb, i, none⟩ = some (.int .u8 (S.getD i 0 : Nat))) (h8 : ∀ i, i < (deltaL S ops).length → w.cell? ⟨db, i, none⟩ = some (.int .u8 ((deltaL S ops).getD i 0 : Nat))) =>
    patchDelta_any B b sb db c1 0 (.slice (some ⟨db, 0, none⟩) (deltaL S ops).length c2) S ops w h1 h2 h3 h4 h5 hS hc1 hc1m hT1 hT HOK.out HLT.out h6 h7 h8)
  rw [← hL] at HPD hT1 hT ⊢
  clear hs hd hok hlt hL
  obtain ⟨n, hn⟩ : ∃ n, n = (deltaL S ops).length := ⟨_, rfl⟩
  rw [← hn] at hc2 hdl HPD HD ⊢
  obtain ⟨N, hN⟩ : ∃ N, N = S.length := ⟨_, rfl⟩
  rw [← hN] at hS1 hS hc1 HPD HS ⊢
  obtain ⟨hd1, hd2⟩ := hdl
  have q1 : ((N : Int) == 0) = false := beq_eq_false_iff_ne.mpr (by omega)
  have q2 : ¬ (n : Int) < 2 := by omega
  clear hn hN
  go_enter Tryd.func20, Tryd.ntmps20
  go_wp2_with fail
  have hI := Lib.fresh_isBuffer 70 5 w
  generalize hW : w.alloc _ = W at hI ⊢
  have HI := Lib.hid hI
  have HB : Hid (Below w.heap.size w W) := Lib.hid (by subst hW; exact (Below.refl _ _).alloc (Nat.le_refl _) _)
  have hnr : Hid (Lib.NoRoom w.heap.size L.length W) := Lib.hid ⟨none, 0, 0, by subst hW; exact World.cell?_alloc_mark w _ 70 (0, 0) 0, by omega⟩
  have hBw : w.heap.size ≤ W.heap.size := HB.out.size
  clear hI hW
  have HP := Lib.hid (HPD.out w.heap.size w.heap.size W HI.out hnr.out hBw hsb hdb ⟨0, c2, rfl, hc2, hc2m, fun _ => rfl⟩ (fun i hi => (HB.out.cell (p := ⟨sb, i, none⟩) hsb).trans (HS.out i hi)) (fun i hi => (HB.out.cell (p := ⟨db, i, none⟩) hdb).trans (HD.out i hi)))
  with_reducible refine HP.out.mono ?_
  rintro e w' ⟨rfl, hI2, hb2⟩
  have HI2 := Lib.hid hI2; have HB2 : Hid (Below w.heap.size w w') := Lib.hid (HB.out.trans hb2)
  clear hI2 hb2 HI hnr hBw HP HPD
  go_wp2_with fail
  with_reducible refine (buf_bytes w.heap.size w.heap.size _ w' HI2.out).mono ?_
  rintro e w2 ⟨v, rfl, hown, k, rfl⟩
  obtain ⟨g, cap, hv, hg, hc⟩ := own_u8s L hown (by omega)
  subst hv
  have HC := Lib.hid hc; clear hc hown
  have HB3 : Hid (Below w.heap.size w (w'.drewN k)) := Lib.hid (below_drewN HB2.out k)
  go_wp2
  go_ret2
  exact ⟨g, cap, rfl, hg, HC.out, HB3.out⟩

def StrNb (L : List Nat) (w : World) (e : Ending) (w' : World) : Prop :=
  ∃ r : ByteArray, e = .returned (.tuple #[.string r, .string ⟨#[]⟩]) ∧ nb r = L ∧ Below w.heap.size w w'
theorem getD_bx (s : ByteArray) (i : Nat) : (nb s).getD i 0 = bx s i := rfl
set_option maxRecDepth 100000 in
set_option maxHeartbeats 4000000 in
theorem DeltaApply_any (s t : ByteArray) (ops : List DOp) (w : World) (hS1 : 1 ≤ s.size) (hS : s.size ≤ 1000) (hT1 : 1 ≤ (outs (nb s) ops).length) (hT : (outs (nb s) ops).length ≤ 1000)
    (hok : ∀ a ∈ ops, opOk s.size a) (hlt : ∀ c ∈ encs ops, c < 256) (hol : ∀ c ∈ outs (nb s) ops, c < 256) (ht : nb t = deltaL (nb s) ops) :
    Calls Tryd.prog 13 #[.string s, .string t] w (StrNb (outs (nb s) ops) w) := by
  have hok2 : ∀ a ∈ ops, opOk (nb s).length a := by rw [nb_length]; exact hok
  have hdl := deltaL_len hok2 hT
  have htz : t.size = (deltaL (nb s) ops).length := by rw [← nb_length, ht]
  have hconv := Lib.run_convert_string_bytes (P := Tryd.prog) w 9 38 5 s strKind bytesKind byteKind
  have hconv2 := Lib.run_convert_string_bytes (P := Tryd.prog) (Lib.bytesWorld w 5 s) 9 38 5 t strKind bytesKind byteKind
  have hl1 : (Lib.bytesWorld w 5 s).heap.size = w.heap.size + 1 := by rw [Lib.bytesWorld_size]
  have hl2 : (Lib.bytesWorld (Lib.bytesWorld w 5 s) 5 t).heap.size = w.heap.size + 2 := by rw [Lib.bytesWorld_size, hl1]
  have HL1 := Lib.hid hl1; have HL2 := Lib.hid hl2
  have HA1 := Lib.hid (bytesAt_new w 5 s)
  have HA2 := Lib.hid (bytesAt_new (Lib.bytesWorld w 5 s) 5 t)
  have HB1 := Lib.hid (bytesBelow w 5 s)
  have HB2 := Lib.hid (bytesBelow (Lib.bytesWorld w 5 s) 5 t)
  have q1 := grownCap_ge w s.size 0 5
  have q2 := grownCap_le_maxLen w s.size 0 5 (by unfold maxLen; omega)
  have q3 := grownCap_ge (Lib.bytesWorld w 5 s) t.size 0 5
  have q4 := grownCap_le_maxLen (Lib.bytesWorld w 5 s) t.size 0 5 (by unfold maxLen; omega)
  rw [hl1] at hconv2 HA2
  have HS1 : Hid (∀ i, i < (nb s).length → (Lib.bytesWorld (Lib.bytesWorld w 5 s) 5 t).cell? ⟨w.heap.size, i, none⟩ = some (.int .u8 ((nb s).getD i 0 : Nat))) := Lib.hid fun i hi => by
    rw [HB2.out.cell (p := ⟨w.heap.size, i, none⟩) (by show w.heap.size < _; rw [HL1.out]; omega), (HA1.out i (by rwa [nb_length] at hi)).1]
    rfl
  have HS2 : Hid (∀ i, i < (deltaL (nb s) ops).length → (Lib.bytesWorld (Lib.bytesWorld w 5 s) 5 t).cell? ⟨w.heap.size + 1, i, none⟩ = some (.int .u8 ((deltaL (nb s) ops).getD i 0 : Nat))) := Lib.hid fun i hi => by
    rw [(HA2.out i (by rw [htz]; exact hi)).1, ← ht]
    rfl
  have HP := Lib.hid (PatchDelta_any w.heap.size (w.heap.size + 1) (grownCap w s.size 0 5) (grownCap (Lib.bytesWorld w 5 s) t.size 0 5) (nb s) ops (Lib.bytesWorld (Lib.bytesWorld w 5 s) 5 t)
    (by rw [HL2.out]; omega) (by rw [HL2.out]; omega) (by rw [nb_length]; exact hS1) (by rw [nb_length]; exact hS) (by rw [nb_length]; exact q1) (Nat.le_trans q2 (by decide)) (by rw [← htz]; exact q3) (Nat.le_trans q4 (by decide)) hT1 hT hok2 hlt HS1.out HS2.out)
  rw [nb_length, ← htz] at HP
  obtain ⟨L, hL⟩ : ∃ L, L = outs (nb s) ops := ⟨_, rfl⟩
  rw [← hL] at HP hol hT1 hT ⊢
  have HOL := Lib.hid hol
  clear hl1 hl2 hol hok hok2 hlt hdl htz ht hL HS1 HS2 HA1 HA2
  go_enter Tryd.func13, Tryd.ntmps13
  go_wp2_with fail
  clear hconv hconv2
  with_reducible refine HP.out.mono ?_
  rintro e w3 ⟨g, cap, rfl, hcap, hcell, hb⟩
  have HB3 : Hid (Below w.heap.size w w3) := Lib.hid ((HB1.out.trans (HB2.out.mono HB1.out.size)).trans (hb.mono (by rw [HL2.out]; omega)))
  have hcv : (convert 38 9 (.slice (some ⟨g, 0, none⟩) L.length cap)).run Tryd.prog w3 = .ok (.string (strOfNums (L.map fun x : Nat => (x : Int)))) w3 :=
    run_convert_bytes_arg w3 38 5 bytesKind byteKind g 0 L.length cap _ (by simp) (fun i hi => by
      rw [Nat.zero_add, hcell i hi]
      simp [List.getD_eq_getElem?_getD, hi]) 9 strKind
  have HR : Hid (nb (strOfNums (L.map fun x : Nat => (x : Int))) = L) := Lib.hid (nb_strOfNums L HOL.out)
  generalize strOfNums (L.map fun x : Nat => (x : Int)) = r at hcv HR
  clear hb hcell HP HB1 HB2 q1 q2 q3 q4
  go_wp2
  go_ret2
  exact ⟨r, rfl, HR.out, HB3.out⟩
end Go.Proofs.YtgibmkgibkhemaaDoor
