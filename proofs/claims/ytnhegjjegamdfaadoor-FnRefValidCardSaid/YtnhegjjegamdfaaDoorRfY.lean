/- impl.word, impl.NameOf. -/
import Derived.Test.YtnhegjjegamdfaaDoorRfX
import Derived.Test.YtnhegjjegamdfaaDoorRfW
import Derived.Laws.Tables
import Derived.LaidEql
namespace Go.Proofs.YtnhegjjegamdfaaDoor
open Go.RowKit
set_option linter.unusedSimpArgs false
set_option linter.unusedVariables false

set_option maxHeartbeats 400000 in
theorem word_nil (w : World) :
    Calls Tryd.prog 16 #[.nilIface] w fun e w' => e = .returned (.string ⟨#[]⟩) ∧ w = w' := by
  go_enter Tryd.func16, Tryd.ntmps16
  go_wp2
  go_ret
  exact ⟨rfl, rfl⟩
set_option maxHeartbeats 400000 in
theorem word_err (a : Addr) (msg : ByteArray) (w : World) (h : w.cell? a = some (.string msg)) :
    Calls Tryd.prog 16 #[.iface 88 (.pointer (some a))] w fun e w' => e = .returned (.string msg) ∧ w = w' := by
  have hm : ∀ w, (method 214 88 (.pointer (some a)) "Error").run Tryd.prog w = .ok (87, .pointer (some a)) w := fun _ => by kernel_rfl
  go_enter Tryd.func16, Tryd.ntmps16
  go_wp2
  go_ret
  exact ⟨rfl, rfl⟩

def NamePost (s : ByteArray) (w : World) (e : Ending) (w' : World) : Prop :=
  ∃ (b1 b2 b3 b4 sf : Bool) (sh er : ByteArray), e = .returned (.agg #[.bool b1, .bool b2, .bool b3, .bool b4, .bool sf, .string sh, .string er]) ∧ (sf = true ↔ SafeP (nb s)) ∧ (er.size = 0 ↔ ValidI (nb s)) ∧ Below w.heap.size w w'
theorem nameKind : Tryd.prog.underlying 23 = some (.struct (match Tryd.prog.underlying 23 with | some (.struct f) => f | _ => #[])) := by kernel_rfl
theorem nameSize : (Tryd.prog.info? 23).map (·.size) = some 7 := by kernel_rfl
theorem name_one (b1 b2 b3 b4 sf : Bool) (sh er : ByteArray) : (#[.bool b1, .bool b2, .bool b3, .bool b4, .bool sf, .string sh, .string er] : Array Value).all (·.oneCell') = true := by simp [Value.oneCell']
theorem setRow_rowN {w : World} {g : Nat} {C : Array Value} {T : TypeId} {m : Nat × Nat} (h : w.heap[g]? = some (.cells C T m)) (C' : Array Value) : (w.setRow g C').heap[g]? = some (.cells C' T m) := by
  simp [World.setRow, Array.getElem?_modify, h]
theorem below_setRow' {w w1 : World} {b : Nat} (h : Below w.heap.size w w1) (hb : w.heap.size ≤ b) (C : Array Value) : Below w.heap.size w (w1.setRow b C) :=
  ⟨h.os, h.tape, h.output, by simpa [World.setRow] using h.size, fun k hk => by
    have hk2 : ¬ b = k := by omega
    refine Eq.trans ?_ (h.block k hk)
    simp [World.setRow, Array.getElem?_modify, hk2]⟩
set_option maxRecDepth 100000 in
set_option maxHeartbeats 4000000 in
theorem NameOf_any (s : ByteArray) (a : Addr) (msg : ByteArray) (w : World) (hs : s.size ≤ 1000) (hv : ErrAt w 0 a msg) :
    Calls Tryd.prog 5 #[.string s] w (NamePost s w) := by
  have HV := Lib.hid hv
  clear hv
  go_enter Tryd.func5, Tryd.ntmps5
  go_wp2_with fail
  generalize hW : w.alloc _ = W1
  have HR1 : Hid (∃ C : Array Value, C.size = 7 ∧ W1.heap[w.heap.size]? = some (.cells C 23 (0, 0))) := Lib.hid (by subst hW; exact ⟨_, by kernel_rfl, heap_new _ _⟩)
  have HB1 : Hid (Below w.heap.size w W1) := Lib.hid (by subst hW; exact (Below.refl _ _).alloc (Nat.le_refl _) _)
  have HZ1 : Hid (w.heap.size < W1.heap.size) := Lib.hid (by subst hW; rw [heap_new_size]; omega)
  clear hW
  with_reducible refine (IsBranch_any s _ hs).mono ?_
  rintro e w' ⟨b1, rfl, _, rfl⟩
  go_wp2_with fail
  with_reducible refine (IsNote_any s _ hs).mono ?_
  rintro e w' ⟨b2, rfl, _, rfl⟩
  go_wp2_with fail
  with_reducible refine (IsRemote_any s _ hs).mono ?_
  rintro e w' ⟨b3, rfl, _, rfl⟩
  go_wp2_with fail
  with_reducible refine (IsTag_any s _ hs).mono ?_
  rintro e w1 ⟨b4, rfl, _, rfl⟩
  go_wp2_with fail
  with_reducible refine (IsSafe_any s _ hs).mono ?_
  rintro e w2 ⟨sf, rfl, hsf, hb2⟩
  have HSF := Lib.hid hsf
  have HB2 := Lib.hid (HB1.out.trans (hb2.mono HB1.out.size))
  have HL2 := Lib.hid hb2
  clear hsf hb2
  go_wp2_with fail
  with_reducible refine (Short_any s _ hs).mono ?_
  rintro e w3 ⟨sh, rfl, hb3⟩
  have HB3 := Lib.hid (HB2.out.trans (hb3.mono HB2.out.size))
  have HL3 := Lib.hid (HL2.out.trans (hb3.mono HL2.out.size))
  clear hb3
  go_wp2_with fail
  with_reducible refine (Validate_any s a msg _ hs (HV.out.below HB3.out)).mono ?_
  rintro e w4 hval
  have fin : ∀ (er : ByteArray) (w4 : World), (er.size = 0 ↔ ValidI (nb s)) → Below w3.heap.size w3 w4 → ∃ C : Array Value, C.size = 7 ∧ w4.heap[w.heap.size]? = some (.cells C 23 (0, 0)) ∧ Below w.heap.size w w4 := fun er w4 _ hb4 => by
    obtain ⟨C, hC, hrow⟩ := HR1.out
    have hl := HL3.out.trans (hb4.mono HL3.out.size)
    exact ⟨C, hC, (hl.block w.heap.size HZ1.out).trans hrow, HB3.out.trans (hb4.mono HB3.out.size)⟩
  rcases hval with ⟨hok, rfl, hb4⟩ | ⟨hno, rfl, hb4⟩
  · obtain ⟨C, hC, hrow, hlow⟩ := fin ⟨#[]⟩ w4 ⟨fun _ => hok, fun _ => rfl⟩ hb4
    have HOK := Lib.hid hok; have HROW := Lib.hid hrow; have HLOW := Lib.hid hlow
    clear hok hb4 fin hrow hlow
    go_wp2_with fail
    with_reducible refine (word_nil _).mono ?_
    rintro e w5 ⟨rfl, rfl⟩
    have HR5 : Hid ((w4.setRow w.heap.size #[.bool b1, .bool b2, .bool b3, .bool b4, .bool sf, .string sh, .string ⟨#[]⟩]).heap[w.heap.size]? = some (.cells #[.bool b1, .bool b2, .bool b3, .bool b4, .bool sf, .string sh, .string ⟨#[]⟩] 23 (0, 0))) := Lib.hid (setRow_rowN HROW.out _)
    have HB5 := Lib.hid (below_setRow' HLOW.out (Nat.le_refl _) #[.bool b1, .bool b2, .bool b3, .bool b4, .bool sf, .string sh, .string ⟨#[]⟩])
    go_wp2_with (refine wpList_store_row rfl 23 (.tmp 2) (.tmp 20) rfl w.heap.size #[.bool b1, .bool b2, .bool b3, .bool b4, .bool sf, .string sh, .string ⟨#[]⟩] rfl rfl 23 C HROW.out nameSize hC (name_one _ _ _ _ _ _ _) ?_)
    refine bodyPost_ret (results_cell_row rfl _ _ w.heap.size _ _ (0, 0) _ rfl HR5.out nameKind rfl nameSize) rfl ?_
    exact ⟨b1, b2, b3, b4, sf, sh, _, rfl, HSF.out, ⟨fun _ => HOK.out, fun _ => rfl⟩, HB5.out⟩
  · obtain ⟨C, hC, hrow, hlow⟩ := fin msg w4 ⟨fun h => absurd h HV.out.some, fun h => absurd h hno⟩ hb4
    have HNO := Lib.hid hno; have HROW := Lib.hid hrow; have HLOW := Lib.hid hlow
    have htx := (HV.out.below hlow).text
    clear hno hb4 fin hrow hlow
    go_wp2_with fail
    with_reducible refine (word_err a msg _ htx).mono ?_
    rintro e w5 ⟨rfl, rfl⟩
    clear htx
    have HR5 : Hid ((w4.setRow w.heap.size #[.bool b1, .bool b2, .bool b3, .bool b4, .bool sf, .string sh, .string msg]).heap[w.heap.size]? = some (.cells #[.bool b1, .bool b2, .bool b3, .bool b4, .bool sf, .string sh, .string msg] 23 (0, 0))) := Lib.hid (setRow_rowN HROW.out _)
    have HB5 := Lib.hid (below_setRow' HLOW.out (Nat.le_refl _) #[.bool b1, .bool b2, .bool b3, .bool b4, .bool sf, .string sh, .string msg])
    go_wp2_with (refine wpList_store_row rfl 23 (.tmp 2) (.tmp 20) rfl w.heap.size #[.bool b1, .bool b2, .bool b3, .bool b4, .bool sf, .string sh, .string msg] rfl rfl 23 C HROW.out nameSize hC (name_one _ _ _ _ _ _ _) ?_)
    refine bodyPost_ret (results_cell_row rfl _ _ w.heap.size _ _ (0, 0) _ rfl HR5.out nameKind rfl nameSize) rfl ?_
    exact ⟨b1, b2, b3, b4, sf, sh, _, rfl, HSF.out, ⟨fun h => absurd h HV.out.some, fun h => absurd h HNO.out⟩, HB5.out⟩

theorem name_safe (b1 b2 b3 b4 sf : Bool) (sh er : ByteArray) (w : World) : (Instr.field 23 (.agg #[.bool b1, .bool b2, .bool b3, .bool b4, .bool sf, .string sh, .string er]) 4).run Tryd.prog w = .ok (.bool sf) w := by kernel_rfl
theorem name_err (b1 b2 b3 b4 sf : Bool) (sh er : ByteArray) (w : World) : (Instr.field 23 (.agg #[.bool b1, .bool b2, .bool b3, .bool b4, .bool sf, .string sh, .string er]) 6).run Tryd.prog w = .ok (.string er) w := by kernel_rfl
end Go.Proofs.YtnhegjjegamdfaaDoor
