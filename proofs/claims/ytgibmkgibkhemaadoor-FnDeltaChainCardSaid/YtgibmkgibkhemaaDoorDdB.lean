/- diffDelta: what is kept from write to write. -/
import Derived.Test.YtgibmkgibkhemaaDoorDdA
namespace Go.Proofs.YtgibmkgibkhemaaDoor
open Go.Shelf Go.RowKit
set_option linter.unusedSimpArgs false
set_option linter.unusedVariables false

theorem IxSt.keep {X : Nat → Prop} {w w' : World} {ix tb e2 tn M K : Nat} {T2 E2 : Nat → Nat} {L : Nat} (h : IxSt w ix tb e2 tn M K T2 E2 L) (hk : Kp X w w') (h1 : ¬ X ix) (h2 : ¬ X tb) (h3 : ¬ X e2) : IxSt w' ix tb e2 tn M K T2 E2 L :=
  ⟨(hk.block ix (Lib.lt_of_heap h.row) h1).trans h.row, h.t.of_block (hk.block tb h.t.lt h2), h.e.of_block (hk.block e2 h.e.lt h3), h.it, h.ie, h.te, h.tv, h.ev⟩
/-- The index beside the two buffers (of a short source nothing is needed). -/
def Ix3 (w : World) (ix b1 : Nat) (r1 : Option Nat) (b2 : Nat) (r2 : Option Nat) (N : Nat) : Prop :=
  N < 16 ∨ ∃ (xb e2 tn M : Nat) (T2 E2 : Nat → Nat), IxSt w ix xb e2 tn M M T2 E2 N ∧ 1 ≤ tn ∧ tn ≤ 64 ∧ M ≤ 5000 ∧ (∀ k, k = ix ∨ k = xb ∨ k = e2 → k ≠ b1 ∧ k ≠ b2 ∧ r1 ≠ some k ∧ r2 ≠ some k)
theorem Ix3.plain {w : World} {ix b1 b2 N : Nat} {r1 r2 : Option Nat} (h : Ix3 w ix b1 r1 b2 r2 N) : N < 16 ∨ ∃ (xb e2 tn M : Nat) (T2 E2 : Nat → Nat), IxSt w ix xb e2 tn M M T2 E2 N ∧ 1 ≤ tn ∧ tn ≤ 64 ∧ M ≤ 5000 := by
  rcases h with h | ⟨xb, e2, tn, M, T2, E2, h1, h2, h3, h4, _⟩
  · exact .inl h
  · exact .inr ⟨xb, e2, tn, M, T2, E2, h1, h2, h3, h4⟩
theorem IxSt.lts {w : World} {ix tb e2 tn M K : Nat} {T2 E2 : Nat → Nat} {L : Nat} (h : IxSt w ix tb e2 tn M K T2 E2 L) {k : Nat} (hk : k = ix ∨ k = tb ∨ k = e2) : k < w.heap.size := by
  rcases hk with rfl | rfl | rfl
  · exact Lib.lt_of_heap h.row
  · exact h.t.lt
  · exact h.e.lt
/-- A write that touches some blocks of the buffers and gives the first a row that it had, or a new one. -/
theorem Ix3.wrote {X : Nat → Prop} {w w' : World} {ix b1 b2 N : Nat} {r1 r2 r1' r2' : Option Nat} (h : Ix3 w ix b1 r1 b2 r2 N) (hk : Kp X w w') (hX : ∀ k, X k → k = b1 ∨ k = b2 ∨ r1 = some k ∨ r2 = some k)
    (h1 : NewRow w r1 r1') (h2 : NewRow w r2 r2') : Ix3 w' ix b1 r1' b2 r2' N := by
  rcases h with h | ⟨xb, e2, tn, M, T2, E2, hi, t1, t2, hM, hs⟩
  · exact .inl h
  · have hx : ∀ k, k = ix ∨ k = xb ∨ k = e2 → ¬ X k := by
      intro k hk2 hxk
      obtain ⟨s1, s2, s3, s4⟩ := hs k hk2
      rcases hX k hxk with e | e | e | e
      · exact s1 e
      · exact s2 e
      · exact s3 e
      · exact s4 e
    refine .inr ⟨xb, e2, tn, M, T2, E2, hi.keep hk (hx _ (.inl rfl)) (hx _ (.inr (.inl rfl))) (hx _ (.inr (.inr rfl))), t1, t2, hM, fun k hk2 => ?_⟩
    obtain ⟨s1, s2, s3, s4⟩ := hs k hk2
    have hlt := hi.lts hk2
    refine ⟨s1, s2, ?_, ?_⟩
    · rcases h1 with h1 | ⟨g, hg, hge⟩
      · rw [← h1]; exact s3
      · rw [hg]; intro e; cases e; omega
    · rcases h2 with h2 | ⟨g, hg, hge⟩
      · rw [← h2]; exact s4
      · rw [hg]; intro e; cases e; omega
theorem BR.keep {X : Nat → Prop} {w w' : World} {b : Nat} {S : List Nat} (h : BR w b S) (hk : Kp X w w') (hx : ¬ X b) : BR w' b S :=
  ⟨Nat.lt_of_lt_of_le h.1 hk.size, fun i hi => by
    have h2 := h.2 i hi
    unfold World.cell? at h2 ⊢
    rw [show ((⟨b, i, none⟩ : Addr).block) = b from rfl] at h2 ⊢
    rw [hk.block b h.1 hx]
    exact h2⟩
/-- The bytes of operations that put in bytes are bytes. -/
theorem insEnc_lt {ops : List DOp} {I : List Nat} (h : InsL ops I) (hI : ∀ c ∈ I, c < 256) : ∀ c ∈ encs ops, c < 256 := by
  intro c hc
  unfold encs at hc
  obtain ⟨a, ha, hca⟩ := List.mem_flatMap.mp hc
  have hok := h.ok 0 a ha
  refine opEnc_lt (N := 0) (by decide) hok ?_ c hca
  rintro l rfl d hd
  refine hI d ?_
  rw [← h.out []]
  unfold outs
  exact List.mem_flatMap.mpr ⟨_, ha, hd⟩
/-- All that the loop of diffDelta keeps. -/
structure DfSt (w wr : World) (ix sb tb b1 b2 : Nat) (r1 r2 : Option Nat) (S T H : List Nat) (ops : List DOp) (I : List Nat) (i : Nat) : Prop where
  bufs : TB wr b1 r1 (H ++ encs ops) b2 r2 I
  row : r1 ≠ none
  idx : Ix3 wr ix b1 r1 b2 r2 S.length
  src : BR wr sb S
  tgt : BR wr tb T
  ls : sb < w.heap.size
  lt : tb < w.heap.size
  l1 : w.heap.size ≤ b1
  l2 : w.heap.size ≤ b2
  m1 : ∀ g, r1 = some g → w.heap.size ≤ g
  m2 : ∀ g, r2 = some g → w.heap.size ≤ g
  ok : ∀ a ∈ ops, opOk S.length a
  bytes : ∀ c ∈ encs ops, c < 256
  small : ∀ c ∈ T, c < 256
  out : outs S ops ++ I = T.take i
  kept : Kp (fun k => k = ix) w wr
theorem DfSt.ilen {w wr : World} {ix sb tb b1 b2 : Nat} {r1 r2 : Option Nat} {S T H : List Nat} {ops : List DOp} {I : List Nat} {i : Nat} (h : DfSt w wr ix sb tb b1 b2 r1 r2 S T H ops I i) : (outs S ops).length + I.length ≤ T.length := by
  have h1 := congrArg List.length h.out
  rw [List.length_append, List.length_take] at h1
  omega
/-- A byte more that waits. -/
theorem DfSt.ins {w wr w' : World} {ix sb tb b1 b2 r' : Nat} {r1 r2 : Option Nat} {S T H : List Nat} {ops : List DOp} {I : List Nat} {i : Nat} (h : DfSt w wr ix sb tb b1 b2 r1 r2 S T H ops I i) (hi : i < T.length)
    (hb : BufS w' b2 (some r') (u8s (I ++ [T.getD i 0]))) (hk : Kp (fun k => k = b2 ∨ r2 = some k) wr w') (hr : r2 = some r' ∨ wr.heap.size ≤ r') : DfSt w w' ix sb tb b1 b2 r1 (some r') S T H ops (I ++ [T.getD i 0]) (i + 1) := by
  have hsz := h.kept.size
  have hx : ∀ k, k < w.heap.size → ¬ (k = b2 ∨ r2 = some k) := by
    rintro k hk (e | e)
    · have := h.l2; omega
    · have := h.m2 k e; omega
  have hnew : NewRow wr r2 (some r') := hr.elim .inl (fun hr => .inr ⟨r', rfl, hr⟩)
  refine ⟨(h.bufs.swap.wrote hb hk hr).swap, h.row, h.idx.wrote hk (fun k e => e.elim (fun e => .inr (.inl e)) (fun e => .inr (.inr (.inr e)))) (.inl rfl) hnew, h.src.keep hk (hx sb h.ls), h.tgt.keep hk (hx tb h.lt), h.ls, h.lt, h.l1, h.l2, h.m1, ?_, h.ok, h.bytes, h.small, ?_, h.kept.trans hk (fun k hk2 e => absurd e (hx k hk2))⟩
  · intro g hg
    cases hg
    rcases hr with hr | hr
    · exact h.m2 _ hr
    · omega
  · rw [← List.append_assoc, h.out, List.take_add_one, List.getElem?_eq_getElem hi, List.getD_eq_getElem?_getD, List.getElem?_eq_getElem hi]
    rfl
/-- What waits is put in. -/
theorem DfSt.flush {w wr w' : World} {ix sb tb b1 b2 : Nat} {r1 r2 r1' : Option Nat} {S T H : List Nat} {ops ops2 : List DOp} {I : List Nat} {i : Nat} (h : DfSt w wr ix sb tb b1 b2 r1 r2 S T H ops I i) (hi : InsL ops2 I)
    (ht : TB w' b1 r1' (H ++ encs ops ++ encs ops2) b2 r2 []) (hk : Kp (fun k => k = b1 ∨ k = b2 ∨ r1 = some k) wr w') (hr : NewRow wr r1 r1') : DfSt w w' ix sb tb b1 b2 r1' r2 S T H (ops ++ ops2) [] i := by
  have hsz := h.kept.size
  have hx : ∀ k, k < w.heap.size → ¬ (k = b1 ∨ k = b2 ∨ r1 = some k) := by
    rintro k hk (e | e | e)
    · have := h.l1; omega
    · have := h.l2; omega
    · have := h.m1 k e; omega
  have hsm : ∀ c ∈ I, c < 256 := fun c hc => h.small c (List.mem_of_mem_take (by rw [← h.out]; exact List.mem_append_right _ hc))
  refine ⟨by rw [encs_append, ← List.append_assoc]; exact ht, ?_, h.idx.wrote hk (fun k e => e.elim .inl (fun e => e.elim (fun e => .inr (.inl e)) (fun e => .inr (.inr (.inl e))))) hr (.inl rfl), h.src.keep hk (hx sb h.ls), h.tgt.keep hk (hx tb h.lt), h.ls, h.lt, h.l1, h.l2, ?_, h.m2, ?_, ?_, h.small, ?_, h.kept.trans hk (fun k hk2 e => absurd e (hx k hk2))⟩
  · rcases hr with hr | ⟨g, hg, _⟩
    · rw [← hr]; exact h.row
    · rw [hg]; exact fun e => by cases e
  · intro g hg
    rcases hr with hr | ⟨g2, hg2, hge⟩
    · exact h.m1 g (hr.trans hg)
    · rw [hg2] at hg; cases hg; omega
  · intro a ha
    rcases List.mem_append.mp ha with ha | ha
    · exact h.ok a ha
    · exact hi.ok _ a ha
  · intro c hc
    rw [encs_append] at hc
    rcases List.mem_append.mp hc with hc | hc
    · exact h.bytes c hc
    · exact insEnc_lt hi hsm c hc
  · rw [outs_append, hi.out, List.append_nil]; exact h.out
theorem DfSt.stay {w wr w' : World} {ix sb tb b1 b2 : Nat} {r1 r2 : Option Nat} {S T H : List Nat} {ops : List DOp} {I : List Nat} {i : Nat} (h : DfSt w wr ix sb tb b1 b2 r1 r2 S T H ops I i) (hb : Below wr.heap.size wr w') : DfSt w w' ix sb tb b1 b2 r1 r2 S T H ops I i := by
  have hk : Kp (fun _ => False) wr w' := Kp.of_below hb _
  exact ⟨h.bufs.keep hk id id (fun _ _ e => e) (fun _ _ e => e), h.row, h.idx.wrote hk (fun _ e => e.elim) (.inl rfl) (.inl rfl), h.src.keep hk id, h.tgt.keep hk id, h.ls, h.lt, h.l1, h.l2, h.m1, h.m2, h.ok, h.bytes, h.small, h.out, h.kept.trans hk (fun _ _ e => e.elim)⟩
theorem same_piece {S T : List Nat} {p i k : Nat} (hp : p + k ≤ S.length) (hi : i + k ≤ T.length) (heq : ∀ j, j < k → S.getD (p + j) 0 = T.getD (i + j) 0) : (S.drop p).take k = (T.drop i).take k := by
  refine List.ext_getElem (by simp; omega) fun j h1 h2 => ?_
  have hj : j < k := by simp at h1; omega
  have := heq j hj
  rw [List.getD_eq_getElem?_getD, List.getD_eq_getElem?_getD, List.getElem?_eq_getElem (by omega), List.getElem?_eq_getElem (by omega)] at this
  simpa using this
/-- A piece of the source. -/
theorem DfSt.copy {w wr w' : World} {ix sb tb b1 b2 r' p k : Nat} {r1 r2 : Option Nat} {S T H : List Nat} {ops : List DOp} {i : Nat} (h : DfSt w wr ix sb tb b1 b2 r1 r2 S T H ops [] i) (hS : S.length < 65536) (hp : p + k ≤ S.length) (hk16 : 16 ≤ k) (hi : i + k ≤ T.length)
    (heq : ∀ j, j < k → S.getD (p + j) 0 = T.getD (i + j) 0) (hb : BufS w' b1 (some r') (u8s (H ++ encs ops ++ cpyEnc p k))) (hk : Kp (fun k => k = b1 ∨ r1 = some k) wr w') (hr : r1 = some r' ∨ wr.heap.size ≤ r') :
    DfSt w w' ix sb tb b1 b2 (some r') r2 S T H (ops ++ [.inr (p, k)]) [] (i + k) := by
  have hsz := h.kept.size
  have hx : ∀ q, q < w.heap.size → ¬ (q = b1 ∨ r1 = some q) := by
    rintro q hq (e | e)
    · have := h.l1; omega
    · have := h.m1 q e; omega
  have hnew : NewRow wr r1 (some r') := hr.elim .inl (fun hr => .inr ⟨r', rfl, hr⟩)
  have hok1 : opOk S.length (.inr (p, k)) := ⟨hp, hk16⟩
  have henc : H ++ encs (ops ++ [.inr (p, k)]) = H ++ encs ops ++ cpyEnc p k := by rw [encs_append, encs_one, ← List.append_assoc]; rfl
  refine ⟨by rw [henc]; exact h.bufs.wrote hb hk hr, (fun e => by cases e), h.idx.wrote hk (fun q e => e.elim .inl (fun e => .inr (.inr (.inl e)))) hnew (.inl rfl), h.src.keep hk (hx sb h.ls), h.tgt.keep hk (hx tb h.lt), h.ls, h.lt, h.l1, h.l2, ?_, h.m2, ?_, ?_, h.small, ?_, h.kept.trans hk (fun q hq e => absurd e (hx q hq))⟩
  · intro g hg
    cases hg
    rcases hr with hr | hr
    · exact h.m1 _ hr
    · omega
  · intro a ha
    rcases List.mem_append.mp ha with ha | ha
    · exact h.ok a ha
    · simp at ha; subst ha; exact hok1
  · intro c hc
    rw [encs_append, encs_one] at hc
    rcases List.mem_append.mp hc with hc | hc
    · exact h.bytes c hc
    · exact opEnc_lt hS hok1 (fun l e => by cases e) c hc
  · have ho := h.out
    rw [List.append_nil] at ho
    rw [outs_append, outs_one, List.append_nil, ho, List.take_add]
    show _ ++ (S.drop p).take k = _
    rw [same_piece hp hi heq]
end Go.Proofs.YtgibmkgibkhemaaDoor
