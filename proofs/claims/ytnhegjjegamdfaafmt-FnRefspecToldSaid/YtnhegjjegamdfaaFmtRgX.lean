/- spec.RefspecMatch, spec.RefspecTo. -/
import Derived.Test.YtnhegjjegamdfaaFmtRgM
import Derived.Test.YtnhegjjegamdfaaFmtRgN
import Derived.Deep.QuietTactic
import Derived.BigQuiet
namespace Go.Proofs.YtnhegjjegamdfaaFmt
open Go.RowKit
set_option linter.unusedSimpArgs false
set_option linter.unusedVariables false

theorem alloc_row {w W1 : World} {C : Array Value} {T : TypeId} (h : w.alloc (.cells C T) = W1) : Hid (W1.heap[w.heap.size]? = some (.cells C T (0, 0))) ∧ Hid (Below w.heap.size w W1) ∧ Hid (w.heap.size < W1.heap.size) := by
  subst h
  exact ⟨Lib.hid (heap_new _ _), Lib.hid ((Below.refl _ _).alloc (Nat.le_refl _) _), Lib.hid (by rw [heap_new_size]; omega)⟩
set_option maxHeartbeats 400000 in
theorem refBegins_any (s p : ByteArray) (w : World) (hs : s.size ≤ 10000) (hp : p.size ≤ 10000) :
    Calls Tryf.prog 28 #[.string s, .string p] w (BoolPost (Pre (nb s) (nb p)) w) := by
  by_cases hle : p.size ≤ s.size
  · have hle' : (p.size : Int) ≤ s.size := by omega
    have hq := beq_str2 (s.extract 0 p.size) p
    have HQ := Lib.hid (pre_iff s p hle)
    have HB := Lib.hid (beq_iff_eq (a := nb (s.extract 0 p.size)) (b := nb p))
    generalize hB : (nb (s.extract 0 p.size) == nb p) = B at hq HB
    clear hB
    go_enter Tryf.func28, Tryf.ntmps28
    go_wp2
    go_ret
    exact ⟨B, rfl, HB.out.trans HQ.out.symm, rfl⟩
  · have hle' : (s.size : Int) < p.size := by omega
    go_enter Tryf.func28, Tryf.ntmps28
    go_wp2
    go_ret
    exact ⟨false, rfl, ⟨fun h => (by cases h), fun h => absurd (pre_le h) hle⟩, rfl⟩
set_option maxHeartbeats 400000 in
theorem refEnds_any (s p : ByteArray) (w : World) (hs : s.size ≤ 10000) (hp : p.size ≤ 10000) :
    Calls Tryf.prog 29 #[.string s, .string p] w (BoolPost (Suf (nb s) (nb p)) w) := by
  by_cases hle : p.size ≤ s.size
  · have hle' : (p.size : Int) ≤ s.size := by omega
    have hq := beq_str2 (s.extract (s.size - p.size) s.size) p
    have HQ := Lib.hid (suf_iff s p hle)
    have HB := Lib.hid (beq_iff_eq (a := nb (s.extract (s.size - p.size) s.size)) (b := nb p))
    generalize hB : (nb (s.extract (s.size - p.size) s.size) == nb p) = B at hq HB
    clear hB
    obtain ⟨d, hd⟩ : ∃ d, s.size - p.size = d := ⟨_, rfl⟩
    rw [hd] at hq
    have e1 : (s.size : Int) - p.size = (d : Int) := by omega
    have hds : d ≤ s.size := by omega
    clear hd
    go_enter Tryf.func29, Tryf.ntmps29
    go_wp2
    go_ret
    exact ⟨B, rfl, HB.out.trans HQ.out.symm, rfl⟩
  · have hle' : (s.size : Int) < p.size := by omega
    go_enter Tryf.func29, Tryf.ntmps29
    go_wp2
    go_ret
    exact ⟨false, rfl, ⟨fun h => (by cases h), fun h => absurd (suf_le h) hle⟩, rfl⟩

/-- What a name must be for a refspec's source; what stands in the wildcard's place; where it leads. -/
def MatchN (wl : Bool) (A B nm : List Nat) : Prop := if wl = true then GlobP nm A B else nm = A
def partN (A B nm : List Nat) : List Nat := (nm.drop A.length).take (nm.length - B.length - A.length)
def toN (wl : Bool) (A B C D nm : List Nat) : List Nat := if wl = true then C ++ (partN A B nm ++ D) else C
theorem part_mid {A B nm : List Nat} (h : GlobP nm A B) : nm = A ++ (partN A B nm ++ B) := by
  obtain ⟨hl, ⟨r, hr⟩, ⟨l, hl2⟩⟩ := h
  have e1 : r.length = nm.length - A.length := by rw [hr]; simp
  have e2 : nm.drop A.length = r := by rw [hr]; simp
  unfold partN
  rw [e2]
  have e3 : r.drop (nm.length - B.length - A.length) = B := by
    rw [← e2, List.drop_drop]
    have e4 : A.length + (nm.length - B.length - A.length) = l.length := by
      have : nm.length = l.length + B.length := by rw [hl2]; simp
      omega
    rw [e4, hl2]; simp
  have h4 := List.take_append_drop (nm.length - B.length - A.length) r
  rw [e3] at h4
  conv => lhs; rw [hr]
  rw [h4]
def BelowTwo (Q : Prop) (w : World) (e : Ending) (w' : World) : Prop :=
  ∃ (q : ByteArray) (B : Bool), e = .returned (.tuple #[.string q, .bool B]) ∧ (B = true ↔ Q) ∧ Below w.heap.size w w'
def RmPost (Q : Prop) (part : List Nat) (w : World) (e : Ending) (w' : World) : Prop :=
  ∃ (q : ByteArray) (B : Bool), e = .returned (.tuple #[.string q, .bool B]) ∧ (B = true ↔ Q) ∧ (B = true → nb q = part) ∧ Below w.heap.size w w'
set_option maxRecDepth 100000 in
set_option maxHeartbeats 2000000 in
theorem RefspecMatchW_any (f : Bool) (a b c d nm : ByteArray) (w : World) (ha : a.size ≤ 30) (hb : b.size ≤ 30) (hn : nm.size ≤ 1000) :
    Calls Tryf.prog 12 #[.agg #[.bool f, .bool true, .string a, .string b, .string c, .string d], .string nm] w (RmPost (GlobP (nb nm) (nb a) (nb b)) (partN (nb a) (nb b) (nb nm)) w) := by
  have HGL : Hid (GlobP (nb nm) (nb a) (nb b) ↔ (a.size + b.size ≤ nm.size ∧ Pre (nb nm) (nb a) ∧ Suf (nb nm) (nb b))) := Lib.hid (by unfold GlobP; rw [nb_length, nb_length, nb_length])
  have w1 : IntKind.i64.wrap ((a.size : Int) + b.size) = (a.size : Int) + b.size := IntWalk.i64_in _ (by omega)
  by_cases hlen : a.size + b.size ≤ nm.size
  · have hl : ¬ ((nm.size : Int) < (a.size : Int) + b.size) := by omega
    have hbb := Lib.hid (fun w => refBegins_any nm a w (by omega) (by omega))
    have hee := Lib.hid (fun w => refEnds_any nm b w (by omega) (by omega))
    go_enter Tryf.func12, Tryf.ntmps12
    go_upto_region 3 with (fail)
    generalize hW : w.alloc _ = W1
    obtain ⟨HROW, HB1, HZ1⟩ := alloc_row hW
    clear hW
    have c1 : W1.cell? ⟨w.heap.size, 1, none⟩ = some (.bool true) := (cell_of_row _ _ _ _ _ _ HROW.out).trans rfl
    have c2 : W1.cell? ⟨w.heap.size, 2, none⟩ = some (.string a) := (cell_of_row _ _ _ _ _ _ HROW.out).trans rfl
    have c3 : W1.cell? ⟨w.heap.size, 3, none⟩ = some (.string b) := (cell_of_row _ _ _ _ _ _ HROW.out).trans rfl
    go_wp2_with fail
    with_reducible refine (hbb.out _).mono ?_
    rintro e w' ⟨T1, rfl, hT1, rfl⟩
    have HT1 := Lib.hid hT1
    clear hT1
    cases T1 with
    | false =>
      have HNG : Hid (¬ GlobP (nb nm) (nb a) (nb b)) := Lib.hid (fun h => by have := HT1.out.mpr h.2.1; cases this)
      go_wp2
      go_ret2
      exact ⟨⟨#[]⟩, false, rfl, ⟨fun h => (by cases h), fun h => absurd h HNG.out⟩, fun h => (by cases h), HB1.out⟩
    | true =>
    have HPR : Hid (Pre (nb nm) (nb a)) := Lib.hid (HT1.out.mp rfl)
    clear HT1
    go_wp2_with fail
    with_reducible refine (hee.out _).mono ?_
    rintro e w' ⟨T2, rfl, hT2, rfl⟩
    have HT2 := Lib.hid hT2
    clear hT2
    cases T2 with
    | false =>
      have HNG : Hid (¬ GlobP (nb nm) (nb a) (nb b)) := Lib.hid (fun h => by have := HT2.out.mpr h.2.2; cases this)
      go_wp2
      go_ret2
      exact ⟨⟨#[]⟩, false, rfl, ⟨fun h => (by cases h), fun h => absurd h HNG.out⟩, fun h => (by cases h), HB1.out⟩
    | true =>
    have HG : Hid (GlobP (nb nm) (nb a) (nb b)) := Lib.hid (HGL.out.mpr ⟨hlen, HPR.out, HT2.out.mp rfl⟩)
    clear HT2
    obtain ⟨k, hk⟩ : ∃ k, k = nm.size - b.size := ⟨_, rfl⟩
    have e1 : (nm.size : Int) - (b.size : Int) = (k : Int) := by omega
    have b1 : (a.size : Int) ≤ k := by omega
    have b2 : (k : Int) ≤ nm.size := by omega
    go_wp2
    go_ret2
    refine ⟨_, true, rfl, ⟨fun _ => HG.out, fun _ => rfl⟩, fun _ => ?_, HB1.out⟩
    rw [nb_extract]
    unfold partN
    rw [nb_length, nb_length, nb_length]
  · have hl : (nm.size : Int) < (a.size : Int) + b.size := by omega
    have HNG : Hid (¬ GlobP (nb nm) (nb a) (nb b)) := Lib.hid (fun h => hlen (HGL.out.mp h).1)
    go_enter Tryf.func12, Tryf.ntmps12
    go_upto_region 3 with (fail)
    generalize hW : w.alloc _ = W1
    obtain ⟨HROW, HB1, HZ1⟩ := alloc_row hW
    clear hW
    have c2 : W1.cell? ⟨w.heap.size, 2, none⟩ = some (.string a) := (cell_of_row _ _ _ _ _ _ HROW.out).trans rfl
    have c3 : W1.cell? ⟨w.heap.size, 3, none⟩ = some (.string b) := (cell_of_row _ _ _ _ _ _ HROW.out).trans rfl
    go_wp2
    go_ret2
    exact ⟨⟨#[]⟩, false, rfl, ⟨fun h => (by cases h), fun h => absurd h HNG.out⟩, fun h => (by cases h), HB1.out⟩
set_option maxRecDepth 100000 in
set_option maxHeartbeats 2000000 in
theorem RefspecMatchE_any (f : Bool) (a b c d nm : ByteArray) (w : World) :
    Calls Tryf.prog 12 #[.agg #[.bool f, .bool false, .string a, .string b, .string c, .string d], .string nm] w (RmPost (nb nm = nb a) [] w) := by
  have hq := beq_str2 nm a
  have HQ := Lib.hid (beq_iff_eq (a := nb nm) (b := nb a))
  generalize hB : (nb nm == nb a) = B at hq HQ
  clear hB
  go_enter Tryf.func12, Tryf.ntmps12
  go_upto_region 2 with (fail)
  generalize hW : w.alloc _ = W1
  obtain ⟨HROW, HB1, HZ1⟩ := alloc_row hW
  clear hW
  have c2 : W1.cell? ⟨w.heap.size, 2, none⟩ = some (.string a) := (cell_of_row _ _ _ _ _ _ HROW.out).trans rfl
  go_quiet (fail)
  go_wp2
  go_ret2
  exact ⟨_, B, rfl, HQ.out, fun _ => rfl, below_drewN HB1.out _⟩
def NbPost (l : List Nat) (w : World) (e : Ending) (w' : World) : Prop := ∃ r : ByteArray, e = .returned (.string r) ∧ nb r = l ∧ Below w.heap.size w w'
set_option maxRecDepth 100000 in
set_option maxHeartbeats 2000000 in
theorem RefspecTo_any (f wl : Bool) (a b c d nm : ByteArray) (w : World) (ha : a.size ≤ 30) (hb : b.size ≤ 30) (hc : c.size ≤ 30) (hd : d.size ≤ 30) (hn : nm.size ≤ 1000) (hm : MatchN wl (nb a) (nb b) (nb nm)) :
    Calls Tryf.prog 13 #[.agg #[.bool f, .bool wl, .string a, .string b, .string c, .string d], .string nm] w (NbPost (toN wl (nb a) (nb b) (nb c) (nb d) (nb nm)) w) := by
  cases wl with
  | true =>
    have HG : Hid (GlobP (nb nm) (nb a) (nb b)) := Lib.hid (by simpa [MatchN] using hm)
    have HRM := Lib.hid (fun w => RefspecMatchW_any f a b c d nm w ha hb hn)
    have hpl : (partN (nb a) (nb b) (nb nm)).length ≤ nm.size := by unfold partN; rw [← nb_length nm, List.length_take, List.length_drop]; omega
    clear hm
    go_enter Tryf.func13, Tryf.ntmps13
    go_upto_region 1 with (fail)
    generalize hW : w.alloc _ = W1
    obtain ⟨HROW, HB1, HZ1⟩ := alloc_row hW
    clear hW
    go_wp2_with (refine wpList_load_row rfl 23 (.tmp 2) rfl w.heap.size rfl 23 #[.bool f, .bool true, .string a, .string b, .string c, .string d] (0, 0) _ HROW.out rsKind rfl rsSize ?_)
    with_reducible refine (HRM.out _).mono ?_
    rintro e w2 ⟨q, B, rfl, hB, hq, hb2⟩
    have hB1 : B = true := hB.mpr HG.out
    subst hB1
    have HQ : Hid (nb q = partN (nb a) (nb b) (nb nm)) := Lib.hid (hq rfl)
    have HB2 : Hid (Below w.heap.size w w2) := Lib.hid (HB1.out.trans (hb2.mono HB1.out.size))
    replace HROW := Lib.hid ((hb2.block w.heap.size HZ1.out).trans HROW.out)
    clear hB hq hb2 HB1
    have c1 : w2.cell? ⟨w.heap.size, 1, none⟩ = some (.bool true) := (cell_of_row _ _ _ _ _ _ HROW.out).trans rfl
    have c4 : w2.cell? ⟨w.heap.size, 4, none⟩ = some (.string c) := (cell_of_row _ _ _ _ _ _ HROW.out).trans rfl
    have c5 : w2.cell? ⟨w.heap.size, 5, none⟩ = some (.string d) := (cell_of_row _ _ _ _ _ _ HROW.out).trans rfl
    have hqz : q.size ≤ 1000 := by rw [← nb_length, HQ.out]; omega
    have z1 : (c ++ q).size = c.size + q.size := ByteArray.size_append
    have n1 : ¬ 9223372036854775807 < c.size + q.size := by omega
    have n2 : ¬ 9223372036854775807 < c.size + q.size + d.size := by omega
    go_wp2
    go_ret
    refine ⟨_, rfl, ?_, HB2.out⟩
    rw [nb_append, nb_append, HQ.out]
    unfold toN
    rw [if_pos rfl, List.append_assoc]
  | false =>
    have HRM := Lib.hid (fun w => RefspecMatchE_any f a b c d nm w)
    clear hm
    go_enter Tryf.func13, Tryf.ntmps13
    go_upto_region 1 with (fail)
    generalize hW : w.alloc _ = W1
    obtain ⟨HROW, HB1, HZ1⟩ := alloc_row hW
    clear hW
    go_wp2_with (refine wpList_load_row rfl 23 (.tmp 2) rfl w.heap.size rfl 23 #[.bool f, .bool false, .string a, .string b, .string c, .string d] (0, 0) _ HROW.out rsKind rfl rsSize ?_)
    with_reducible refine (HRM.out _).mono ?_
    rintro e w2 ⟨q, B, rfl, hB, hq, hb2⟩
    have HB2 : Hid (Below w.heap.size w w2) := Lib.hid (HB1.out.trans (hb2.mono HB1.out.size))
    replace HROW := Lib.hid ((hb2.block w.heap.size HZ1.out).trans HROW.out)
    clear hB hq hb2 HB1
    have c1 : w2.cell? ⟨w.heap.size, 1, none⟩ = some (.bool false) := (cell_of_row _ _ _ _ _ _ HROW.out).trans rfl
    have c4 : w2.cell? ⟨w.heap.size, 4, none⟩ = some (.string c) := (cell_of_row _ _ _ _ _ _ HROW.out).trans rfl
    go_wp2
    go_ret
    exact ⟨_, rfl, rfl, HB2.out⟩
/-- Both kinds of a refspec at once. -/
theorem RefspecMatch_any (f wl : Bool) (a b c d nm : ByteArray) (w : World) (ha : a.size ≤ 30) (hb : b.size ≤ 30) (hn : nm.size ≤ 1000) :
    Calls Tryf.prog 12 #[.agg #[.bool f, .bool wl, .string a, .string b, .string c, .string d], .string nm] w (BelowTwo (MatchN wl (nb a) (nb b) (nb nm)) w) := by
  cases wl with
  | true =>
    refine (RefspecMatchW_any f a b c d nm w ha hb hn).mono ?_
    rintro e w' ⟨q, B, rfl, hB, _, hb2⟩
    exact ⟨q, B, rfl, by simpa [MatchN] using hB, hb2⟩
  | false =>
    refine (RefspecMatchE_any f a b c d nm w).mono ?_
    rintro e w' ⟨q, B, rfl, hB, _, hb2⟩
    exact ⟨q, B, rfl, by simpa [MatchN] using hB, hb2⟩
end Go.Proofs.YtnhegjjegamdfaaFmt
