/- encodeInsertOperation: two buffers side by side. -/
import Derived.Test.YtgibmkgibkhemaaDoorDcU
namespace Go.Proofs.YtgibmkgibkhemaaDoor
open Go.Shelf Go.RowKit
set_option linter.unusedSimpArgs false
set_option linter.unusedVariables false

theorem u8s_len (X : List Nat) : (u8s X).length = X.length := by unfold u8s; rw [List.length_map]
theorem u8s_app (X Y : List Nat) : u8s (X ++ Y) = u8s X ++ u8s Y := by unfold u8s; rw [List.map_append]
theorem u8s_at (X : List Nat) (j : Nat) (hj : j < X.length) : (u8s X)[j]? = some (.int .u8 (X.getD j 0 : Nat)) := by
  unfold u8s
  rw [List.getElem?_map, List.getElem?_eq_getElem hj, List.getD_eq_getElem?_getD, List.getElem?_eq_getElem hj]
  rfl
theorem writeN_s (b : Nat) (r : Option Nat) (X C : List Nat) (g o n c : Nat) (w : World) (h : BufS w b r (u8s X)) (hn : C.length = n) (hn1 : 1 ≤ n) (hnil : r = none → n ≤ 64) (hgb : g ≠ b) (har : r ≠ some g)
    (hsrc : ∀ j, j < n → w.cell? ⟨g, o + j, none⟩ = some (.int .u8 (C.getD j 0 : Nat))) (hlim : X.length + n ≤ 1000000) :
    Calls Tryd.prog 35 #[.pointer (some ⟨b, 0, none⟩), .slice (some ⟨g, o, none⟩) n c] w (WrS b r (u8s (X ++ C)) (.tuple #[.int .i64 n, .nilIface]) w) := by
  rw [u8s_app]
  refine write_s b r (u8s X) (u8s C) ⟨g, o, none⟩ n c w h (u8s_one X) (by rw [u8s_len]; exact hn) hn1 hnil hgb har ?_ (u8s_one C) (by rw [u8s_len]; exact hlim)
  intro j v hj
  have hjl : j < C.length := by
    have := (List.getElem?_eq_some_iff.mp hj).1
    rwa [u8s_len] at this
  have hadd : (⟨g, o, none⟩ : Addr).add j = ⟨g, o + j, none⟩ := by unfold Addr.add; split <;> simp_all
  rw [u8s_at C j hjl] at hj
  rw [hadd, hsrc j (by omega), hj]
theorem writeByteN_s (b : Nat) (r : Option Nat) (X : List Nat) (c : Nat) (w : World) (h : BufS w b r (u8s X)) (hlim : X.length + 1 ≤ 1000000) :
    Calls Tryd.prog 40 #[.pointer (some ⟨b, 0, none⟩), .int .u8 (c : Nat)] w (WrS b r (u8s (X ++ [c])) .nilIface w) := by
  rw [u8s_app]
  exact writeByte_s b r (u8s X) c w h (u8s_one X) (by rw [u8s_len]; exact hlim)
theorem BufS.at {w : World} {b g : Nat} {X : List Nat} (h : BufS w b (some g) (u8s X)) (j : Nat) (hj : j < X.length) : w.cell? ⟨g, j, none⟩ = some (.int .u8 (X.getD j 0 : Nat)) := by
  obtain ⟨lr, v, hbk, hgb, cap, cur, hv, hg, hlc, hcm, hcs, htk⟩ := h
  rw [u8s_len] at htk hlc
  rw [Lib.cell_of_heap hg, ← Array.getElem?_toList]
  have h2 := List.getElem?_take_of_lt (l := cur.toList) hj
  rw [htk, u8s_at X j hj] at h2
  exact h2.symm
theorem BufS.row {w : World} {b : Nat} {r : Option Nat} {X : List Nat} (h : BufS w b r (u8s X)) (hX : X ≠ []) : ∃ g, r = some g := by
  cases r with
  | some g => exact ⟨g, rfl⟩
  | none =>
    obtain ⟨lr, v, hbk, _, h2⟩ := h
    cases X with
    | nil => exact absurd rfl hX
    | cons a l => cases h2
theorem BufS.head {w : World} {b : Nat} {r : Option Nat} {X : List Nat} (h : BufS w b r (u8s X)) : ∃ (A : Option Addr) (cap : Nat), w.cell? ⟨b, 0, none⟩ = some (.slice A X.length cap) ∧ w.cell? ⟨b, 1, none⟩ = some (.int .i64 0) ∧ X.length ≤ maxLen ∧ (∀ g, r = some g → A = some ⟨g, 0, none⟩ ∧ X.length ≤ cap ∧ cap ≤ maxLen) := by
  obtain ⟨lr, v, hbk, hm⟩ := h
  cases r with
  | none =>
    obtain ⟨rfl, h2⟩ := hm
    have hX : X = [] := by cases X with | nil => rfl | cons a l => cases h2
    subst hX
    exact ⟨none, 0, by rw [Lib.cell_of_heap hbk]; rfl, by rw [Lib.cell_of_heap hbk]; rfl, Nat.zero_le _, fun g hg => by cases hg⟩
  | some g =>
    obtain ⟨hgb, cap, cur, rfl, hg, hlc, hcm, hcs, htk⟩ := hm
    rw [u8s_len] at hlc hbk
    exact ⟨_, cap, by rw [Lib.cell_of_heap hbk]; rfl, by rw [Lib.cell_of_heap hbk]; rfl, Nat.le_trans hlc hcm, fun g' hg' => by cases hg'; exact ⟨rfl, hlc, hcm⟩⟩

/-- Two buffers, each with its own row. -/
structure TB (w : World) (b1 : Nat) (r1 : Option Nat) (X : List Nat) (b2 : Nat) (r2 : Option Nat) (I : List Nat) : Prop where
  buf : BufS w b1 r1 (u8s X)
  ibuf : BufS w b2 r2 (u8s I)
  ne : b1 ≠ b2
  s1 : r1 ≠ some b2
  s2 : r2 ≠ some b1
  s3 : ∀ g, r1 = some g → r2 ≠ some g
theorem TB.swap {w : World} {b1 b2 : Nat} {r1 r2 : Option Nat} {X I : List Nat} (h : TB w b1 r1 X b2 r2 I) : TB w b2 r2 I b1 r1 X :=
  ⟨h.ibuf, h.buf, h.ne.symm, h.s2, h.s1, fun g h2 h1 => h.s3 g h1 h2⟩
theorem TB.wrote {w w' : World} {b1 b2 r' : Nat} {r1 r2 : Option Nat} {X Y I : List Nat} (h : TB w b1 r1 X b2 r2 I) (hb : BufS w' b1 (some r') (u8s Y)) (hk : Kp (fun k => k = b1 ∨ r1 = some k) w w') (hr : r1 = some r' ∨ w.heap.size ≤ r') :
    TB w' b1 (some r') Y b2 r2 I := by
  refine ⟨hb, h.ibuf.keep hk ?_ ?_, h.ne, ?_, h.s2, ?_⟩
  · rintro (e | e)
    · exact h.ne e.symm
    · exact h.s1 e
  · rintro g hg (e | e)
    · exact h.s2 (by rw [hg, e])
    · exact h.s3 g e hg
  · rcases hr with hr | hr
    · rw [← hr]; exact h.s1
    · intro e
      have := h.ibuf.lt
      cases e; omega
  · intro g hg h2
    cases hg
    rcases hr with hr | hr
    · exact h.s3 _ hr h2
    · have hi := h.ibuf
      rw [h2] at hi
      have := hi.ltr
      omega
theorem TB.keep {X0 : Nat → Prop} {w w' : World} {b1 b2 : Nat} {r1 r2 : Option Nat} {X I : List Nat} (h : TB w b1 r1 X b2 r2 I) (hk : Kp X0 w w') (h1 : ¬ X0 b1) (h2 : ¬ X0 b2) (h3 : ∀ g, r1 = some g → ¬ X0 g) (h4 : ∀ g, r2 = some g → ¬ X0 g) : TB w' b1 r1 X b2 r2 I :=
  ⟨h.buf.keep hk h1 h3, h.ibuf.keep hk h2 h4, h.ne, h.s1, h.s2, h.s3⟩
/-- Operations that put in I. -/
structure InsL (ops : List DOp) (I : List Nat) : Prop where
  ok : ∀ N, ∀ a ∈ ops, opOk N a
  out : ∀ S, outs S ops = I
theorem InsL.nil : InsL [] [] := ⟨fun N a ha => (by cases ha), fun S => rfl⟩
theorem InsL.snoc {ops : List DOp} {I l : List Nat} (h : InsL ops I) (h1 : 1 ≤ l.length) (h2 : l.length ≤ 127) : InsL (ops ++ [.inl l]) (I ++ l) :=
  ⟨fun N a ha => by
    rcases List.mem_append.mp ha with ha | ha
    · exact h.ok N a ha
    · simp at ha; subst ha; exact ⟨h1, h2⟩, fun S => by rw [outs_append, outs_one, h.out S]; rfl⟩
def InsPost (b1 : Nat) (r1 : Option Nat) (X : List Nat) (b2 : Nat) (r2 : Option Nat) (I : List Nat) (w : World) (e : Ending) (w' : World) : Prop :=
  e = .returned (.tuple #[]) ∧ ∃ (ops : List DOp) (r1' : Option Nat), InsL ops I ∧ TB w' b1 r1' (X ++ encs ops) b2 r2 [] ∧ Kp (fun k => k = b1 ∨ k = b2 ∨ r1 = some k) w w' ∧ (r1 = r1' ∨ ∃ g, r1' = some g ∧ w.heap.size ≤ g)
end Go.Proofs.YtgibmkgibkhemaaDoor
