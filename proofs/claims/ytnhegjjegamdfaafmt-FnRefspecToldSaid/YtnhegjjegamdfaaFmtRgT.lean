/- A refspec as text. -/
import Derived.Test.YtnhegjjegamdfaaFmtRgB
import Derived.Deep.QuietTactic
import Derived.BigQuiet
namespace Go.Proofs.YtnhegjjegamdfaaFmt
open Go.RowKit
set_option linter.unusedSimpArgs false
set_option linter.unusedVariables false

def side (a b : ByteArray) (wl : Bool) : ByteArray := if wl = true then a ++ ⟨#[42]⟩ ++ b else a
def fore (f : Bool) : ByteArray := if f = true then ⟨#[43]⟩ else ⟨#[]⟩
def rsText (f wl : Bool) (a b c d : ByteArray) : ByteArray := fore f ++ side a b wl ++ ⟨#[58]⟩ ++ side c d wl
theorem side_size (a b : ByteArray) (wl : Bool) (ha : a.size ≤ 30) (hb : b.size ≤ 30) : (side a b wl).size ≤ 61 := by
  unfold side
  split
  · rw [ByteArray.size_append, ByteArray.size_append]
    show a.size + 1 + b.size ≤ 61
    omega
  · omega
set_option maxHeartbeats 400000 in
theorem refSide_any (a b : ByteArray) (wl : Bool) (w : World) (ha : a.size ≤ 30) (hb : b.size ≤ 30) : Calls Tryf.prog 19 #[.string a, .string b, .bool wl] w fun e w' => e = .returned (.string (side a b wl)) ∧ w' = w := by
  have h1 : ¬ 9223372036854775807 < a.size + 1 := by omega
  have h2 : (a ++ (⟨#[42]⟩ : ByteArray)).size = a.size + 1 := by rw [ByteArray.size_append]; rfl
  have h3 : ¬ 9223372036854775807 < a.size + 1 + b.size := by omega
  cases wl with
  | true =>
    go_enter Tryf.func19, Tryf.ntmps19
    go_wp2
    go_ret
    exact ⟨rfl, rfl⟩
  | false =>
    go_enter Tryf.func19, Tryf.ntmps19
    go_wp2
    go_ret
    exact ⟨rfl, rfl⟩

def TextPost (s : ByteArray) (w : World) (e : Ending) (w' : World) : Prop := e = .returned (.string s) ∧ Below w.heap.size w w'
set_option maxRecDepth 100000 in
set_option maxHeartbeats 2000000 in
theorem RefspecText_any (f wl : Bool) (a b c d : ByteArray) (w : World) (ha : a.size ≤ 30) (hb : b.size ≤ 30) (hc : c.size ≤ 30) (hd : d.size ≤ 30) :
    Calls Tryf.prog 9 #[.agg #[.bool f, .bool wl, .string a, .string b, .string c, .string d]] w (TextPost (rsText f wl a b c d) w) := by
  obtain ⟨A, hA⟩ : ∃ A, A = side a b wl := ⟨_, rfl⟩
  obtain ⟨C, hC⟩ : ∃ C, C = side c d wl := ⟨_, rfl⟩
  have hAz : A.size ≤ 61 := by rw [hA]; exact side_size a b wl ha hb
  have hCz : C.size ≤ 61 := by rw [hC]; exact side_size c d wl hc hd
  have hSA : ∀ w, Calls Tryf.prog 19 #[.string a, .string b, .bool wl] w fun e w' => e = .returned (.string A) ∧ w' = w := fun w => by rw [hA]; exact refSide_any a b wl w ha hb
  have hSC : ∀ w, Calls Tryf.prog 19 #[.string c, .string d, .bool wl] w fun e w' => e = .returned (.string C) ∧ w' = w := fun w => by rw [hC]; exact refSide_any c d wl w hc hd
  have HSA := Lib.hid hSA; have HSC := Lib.hid hSC
  have HA := Lib.hid hA; have HC := Lib.hid hC
  clear hSA hSC hA hC
  cases f with
  | true =>
    have z1 : ((⟨#[43]⟩ : ByteArray) ++ A).size = 1 + A.size := by rw [ByteArray.size_append]; rfl
    have z2 : ((⟨#[43]⟩ : ByteArray) ++ A ++ ⟨#[58]⟩).size = 1 + A.size + 1 := by rw [ByteArray.size_append, z1]; rfl
    have n1 : ¬ 9223372036854775807 < 1 + A.size := by omega
    have n2 : ¬ 9223372036854775807 < 1 + A.size + 1 := by omega
    have n3 : ¬ 9223372036854775807 < 1 + A.size + 1 + C.size := by omega
    go_enter Tryf.func9, Tryf.ntmps9
    go_upto_region 4 with (fail)
    generalize hW : w.alloc _ = W
    have HB : Hid (Below w.heap.size w W) := Lib.hid (by subst hW; exact (Below.refl _ _).alloc (Nat.le_refl _) _)
    have c1 : W.cell? ⟨w.heap.size, 1, none⟩ = some (.bool wl) := by subst hW; exact World.cell?_alloc_mark w _ _ (0, 0) _
    have c2 : W.cell? ⟨w.heap.size, 2, none⟩ = some (.string a) := by subst hW; exact World.cell?_alloc_mark w _ _ (0, 0) _
    have c3 : W.cell? ⟨w.heap.size, 3, none⟩ = some (.string b) := by subst hW; exact World.cell?_alloc_mark w _ _ (0, 0) _
    have c4 : W.cell? ⟨w.heap.size, 4, none⟩ = some (.string c) := by subst hW; exact World.cell?_alloc_mark w _ _ (0, 0) _
    have c5 : W.cell? ⟨w.heap.size, 5, none⟩ = some (.string d) := by subst hW; exact World.cell?_alloc_mark w _ _ (0, 0) _
    clear hW
    go_quiet ((go_at_call 19; first | (with_reducible exact Calls.quiet_of_same (HSA.out _)) | (with_reducible exact Calls.quiet_of_same (HSC.out _))))
    go_wp2
    go_ret
    refine ⟨?_, below_drewN HB.out _⟩
    rw [HA.out, HC.out]; rfl
  | false =>
    have z0 : ((⟨#[]⟩ : ByteArray) ++ A).size = A.size := by rw [ByteArray.size_append]; show 0 + A.size = _; omega
    have z2 : ((⟨#[]⟩ : ByteArray) ++ A ++ ⟨#[58]⟩).size = A.size + 1 := by rw [ByteArray.size_append, z0]; rfl
    have n0 : ¬ 9223372036854775807 < 0 + A.size := by omega
    have n1 : ¬ 9223372036854775807 < A.size := by omega
    have n2 : ¬ 9223372036854775807 < A.size + 1 := by omega
    have n3 : ¬ 9223372036854775807 < A.size + 1 + C.size := by omega
    go_enter Tryf.func9, Tryf.ntmps9
    go_upto_region 4 with (fail)
    generalize hW : w.alloc _ = W
    have HB : Hid (Below w.heap.size w W) := Lib.hid (by subst hW; exact (Below.refl _ _).alloc (Nat.le_refl _) _)
    have c1 : W.cell? ⟨w.heap.size, 1, none⟩ = some (.bool wl) := by subst hW; exact World.cell?_alloc_mark w _ _ (0, 0) _
    have c2 : W.cell? ⟨w.heap.size, 2, none⟩ = some (.string a) := by subst hW; exact World.cell?_alloc_mark w _ _ (0, 0) _
    have c3 : W.cell? ⟨w.heap.size, 3, none⟩ = some (.string b) := by subst hW; exact World.cell?_alloc_mark w _ _ (0, 0) _
    have c4 : W.cell? ⟨w.heap.size, 4, none⟩ = some (.string c) := by subst hW; exact World.cell?_alloc_mark w _ _ (0, 0) _
    have c5 : W.cell? ⟨w.heap.size, 5, none⟩ = some (.string d) := by subst hW; exact World.cell?_alloc_mark w _ _ (0, 0) _
    clear hW
    go_quiet ((go_at_call 19; first | (with_reducible exact Calls.quiet_of_same (HSA.out _)) | (with_reducible exact Calls.quiet_of_same (HSC.out _))))
    go_wp2
    go_ret
    refine ⟨?_, below_drewN HB.out _⟩
    rw [HA.out, HC.out]; rfl
end Go.Proofs.YtnhegjjegamdfaaFmt
