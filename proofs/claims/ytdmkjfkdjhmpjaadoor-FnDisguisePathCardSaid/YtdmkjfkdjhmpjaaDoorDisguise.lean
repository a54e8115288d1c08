/- disguise: the words, their letters as capitals or not, code points that are ignored between them. -/
import Derived.Test.YtdmkjfkdjhmpjaaDoorHead
import Derived.Test.YtdmkjfkdjhmpjaaDoorUtf
import Derived.Test.YtdmkjfkdjhmpjaaDoorNames
namespace Go.Proofs.YtdmkjfkdjhmpjaaDoor
open Go.RowKit
set_option linter.unusedSimpArgs false
set_option linter.unusedVariables false

def nothingOk (r : ByteArray) : Bool :=
  r.size == 0 || (r.size == 3 && bx r 0 / 16 == 14 && bx r 1 / 64 == 2 && bx r 2 / 64 == 2 && decide (0x800 ≤ (bx r 0 % 16) * 4096 + (bx r 1 % 64) * 64 + bx r 2 % 64) && Utf8.valid (((bx r 0 % 16) * 4096 + (bx r 1 % 64) * 64 + bx r 2 % 64 : Nat) : Int) && ign ((bx r 0 % 16) * 4096 + (bx r 1 % 64) * 64 + bx r 2 % 64))

theorem size_zero {r : ByteArray} (h : r.size = 0) : r = ⟨#[]⟩ := by
  apply nb_inj
  exact List.eq_nil_of_length_eq_zero (by rw [nb_length]; exact h)

theorem nothing_facts {r : ByteArray} (h : nothingOk r = true) : r.size ≤ 3 ∧ Whole r ∧ keep (runes r) = [] := by
  simp only [nothingOk, Bool.or_eq_true, Bool.and_eq_true, beq_iff_eq, decide_eq_true_eq] at h
  rcases h with h | ⟨⟨⟨⟨⟨⟨h3, h0⟩, h1⟩, h2⟩, hc⟩, hv⟩, hi⟩
  · rw [size_zero h]; exact ⟨by decide, Whole.empty, rfl⟩
  · have o := one_three r h3 h0 h1 h2 hc hv
    refine ⟨by omega, o.whole, ?_⟩
    rw [o.runes]
    simp [keep, hi]

def strOk (p : ByteArray → Bool) : Value → Bool | .string s => p s | _ => false
theorem all_str {C : Array Value} {p : ByteArray → Bool} (h : C.all (strOk p) = true) (i : Nat) (hi : i < C.size) : ∃ nm : ByteArray, p nm = true ∧ C[i]? = some (.string nm) := by
  have h2 := Array.all_eq_true.mp h i hi
  rw [Array.getElem?_eq_getElem hi]
  generalize C[i] = v at h2
  cases v <;> simp [strOk] at h2
  exact ⟨_, h2, rfl⟩

def NothingPost (w : World) (e : Ending) (w' : World) : Prop := ∃ r : ByteArray, e = .returned (.string r) ∧ nothingOk r = true ∧ Below w.heap.size w w'

set_option maxHeartbeats 400000 in
theorem nothing_any (x : Nat) (hx : x < 256) (w : World) :
    Calls Tryd.prog 14 #[.int .i64 x] w (NothingPost w) := by
  have hm : x % 18 < 18 := Nat.mod_lt _ (by decide)
  go_enter Tryd.func14, Tryd.ntmps14
  go_upto_region 2 with (fail)
  generalize hW : w.alloc _ = W
  have hcell : ∀ i, i < 18 → ∃ nm : ByteArray, nothingOk nm = true ∧ W.cell? ⟨w.heap.size, i, none⟩ = some (.string nm) := by
    intro i hi
    subst hW
    rw [show ∀ C : Array Value, (w.alloc (.cells C 9)).cell? ⟨w.heap.size, i, none⟩ = C[i]? from fun C => World.cell?_alloc_mark _ _ _ _ _]
    exact all_str (p := nothingOk) (by kernel_rfl) i hi
  have hb : Below w.heap.size w W := by subst hW; exact (Below.refl _ _).alloc (Nat.le_refl _) _
  have HB := Lib.hid hb
  clear hW hb
  obtain ⟨nm, hn, hc⟩ := hcell _ hm
  have HN := Lib.hid hn
  clear hcell hn
  have hmi : ((x : Int) % 18).toNat = x % 18 := by omega
  have hlt : (x : Int) % 18 < 18 := by omega
  have hge : 0 ≤ (x : Int) % 18 := by omega
  go_wp2
  go_ret
  exact ⟨nm, rfl, HN.out, HB.out⟩

def wordsN : List (List Nat) := [[46, 103, 105, 116], [103, 105, 116, 126, 49], [46, 103, 105, 116, 109, 111, 100, 117, 108, 101, 115], [103, 105, 116, 109, 111, 100, 126, 49], [103, 105, 116, 109, 111, 100, 126, 52], [103, 105, 55, 101, 98, 97, 126, 49], [46, 103, 105, 116, 105, 103, 110, 111, 114, 101], [103, 105, 116], [46, 103, 105], [103, 105, 116, 126, 50]]
def wordOf (wd : Nat) : List Nat := wordsN.getD (wd % 10) []

theorem words_small (l : List Nat) (h : l ∈ wordsN) : l.length ≤ 11 ∧ (∀ c ∈ l, lowN c = c ∧ c < 127) := by
  have : ∀ l ∈ wordsN, l.length ≤ 11 ∧ (∀ c ∈ l, lowN c = c ∧ c < 127) := by decide
  exact this l h

theorem conv1 (x : Nat) (W : World) : (convert 24 9 (.slice (some ⟨W.heap.size, 0, none⟩) 1 1)).run Tryd.prog (W.alloc (.cells #[.int .u8 (x : Int)] 5)) = .ok (.string (strOfNums [(x : Int)])) (W.alloc (.cells #[.int .u8 (x : Int)] 5)) := by
  refine run_convert_bytes_arg _ 24 5 bytesKind byteKind W.heap.size 0 1 1 [(x : Int)] rfl (fun i hi => ?_) 9 strKind
  obtain rfl : i = 0 := by omega
  exact World.cell?_alloc_mark W #[.int .u8 (x : Int)] 5 (0, 0) 0

def DisguisePost (wd : Nat) (plain : Bool) (w : World) (e : Ending) (w' : World) : Prop :=
  ∃ r1 r2 : ByteArray, e = .returned (.tuple #[.string r1, .string r2]) ∧ nb r2 = wordOf wd ∧ r1.size ≤ 100 ∧ (plain = true → lowS (nb r1) = nb r2) ∧ (plain = false → lowS (keep (runes r1)) = nb r2) ∧ Below w.heap.size w w'

/-- What has been written of a word's first k letters. -/
def Written (plain : Bool) (nm : ByteArray) (k : Nat) (o : ByteArray) : Prop :=
  (plain = true → lowS (nb o) = (nb nm).take k) ∧ (plain = false → Whole o ∧ lowS (keep (runes o)) = (nb nm).take k)

theorem Written.done {plain : Bool} {nm o : ByteArray} (h : Written plain nm nm.size o) : (plain = true → lowS (nb o) = nb nm) ∧ (plain = false → lowS (keep (runes o)) = nb nm) := by
  have e : (nb nm).take nm.size = nb nm := List.take_of_length_le (by rw [nb_length]; omega)
  exact ⟨fun hp => by rw [h.1 hp, e], fun hp => by rw [(h.2 hp).2, e]⟩

theorem Written.nothing {nm o r : ByteArray} {k : Nat} (h : Written false nm k o) (hr : nothingOk r = true) : Written false nm k (o ++ r) := by
  obtain ⟨_, hw, hk⟩ := nothing_facts hr
  obtain ⟨h1, h2⟩ := h.2 rfl
  refine ⟨fun h => (by cases h), fun _ => ⟨h1.append hw, ?_⟩⟩
  rw [h1.app, keep_append, hk, List.append_nil, h2]

theorem Written.letter {plain : Bool} {nm o : ByteArray} {k c : Nat} (h : Written plain nm k o) (hk : k < nm.size) (hc : lowN c = bx nm k) (hc2 : c < 127) (x : ByteArray) (hx : nb x = [c]) : Written plain nm (k + 1) (o ++ x) := by
  have hs : x.size = 1 := by rw [← nb_length, hx]; rfl
  have hb : bx x 0 = c := by unfold bx; rw [hx]; rfl
  have ht : (nb nm).take (k + 1) = (nb nm).take k ++ [bx nm k] := by
    rw [List.take_succ_eq_append_getElem (by rw [nb_length]; exact hk), bx_getElem]
  refine ⟨fun hp => ?_, fun hp => ?_⟩
  · rw [nb_append, ht, ← h.1 hp, hx, ← hc]; simp [lowS]
  · obtain ⟨h1, h2⟩ := h.2 hp
    have o1 := one_ascii x hs (by omega)
    rw [hb] at o1
    refine ⟨h1.append o1.whole, ?_⟩
    have hi : ign c = false := by
      rw [Bool.eq_false_iff]; intro hi; rw [ign_iff] at hi; omega
    rw [h1.app, o1.runes, keep_append, ht, ← h2, ← hc]
    simp [lowS, keep, hi]

set_option maxRecDepth 100000 in
set_option maxHeartbeats 2000000 in
theorem disguise_any (wd : Nat) (hwd : wd < 256) (A1 A2 : Option Addr) (n1 c1 n2 c2 : Nat) (f1 : Nat → Bool) (f2 : Nat → Nat) (plain : Bool) (w : World)
    (hn1 : n1 ≤ 12) (hn2 : n2 ≤ 12) (h1 : Rd w A1 n1 (fun i => .bool (f1 i))) (h2 : Rd w A2 n2 (fun i => .int .u8 (f2 i))) (hf2 : ∀ i, f2 i < 256) :
    Calls Tryd.prog 10 #[.agg #[.int .u8 wd, .slice A1 n1 c1, .slice A2 n2 c2], .bool plain] w (DisguisePost wd plain w) := by
  have hm : wd % 10 < 10 := Nat.mod_lt _ (by decide)
  have H1 := Lib.hid h1
  have H2 := Lib.hid h2
  have HF2 := Lib.hid hf2
  clear h1 h2 hf2
  go_enter Tryd.func10, Tryd.ntmps10
  go_upto_region 2 with (fail)
  generalize hW : (w.alloc _).alloc _ = W
  have hcell : ∃ nm : ByteArray, nb nm = wordOf wd ∧ W.cell? ⟨w.heap.size + 1, wd % 10, none⟩ = some (.string nm) := by
    subst hW
    have e : ∀ C D : Array Value, ((w.alloc (.cells D 26)).alloc (.cells C 9)).cell? ⟨w.heap.size + 1, wd % 10, none⟩ = C[wd % 10]? := fun C D => by
      have := World.cell?_alloc_mark (w.alloc (.cells D 26)) C 9 (0, 0) (wd % 10)
      rwa [heap_new_size] at this
    rw [e]
    unfold wordOf
    have hall : ∀ i : Fin 10, ∃ nm : ByteArray, nb nm = wordsN.getD i.1 [] ∧ (#[Value.string ⟨#[46, 103, 105, 116]⟩, Value.string ⟨#[103, 105, 116, 126, 49]⟩, Value.string ⟨#[46, 103, 105, 116, 109, 111, 100, 117, 108, 101, 115]⟩, Value.string ⟨#[103, 105, 116, 109, 111, 100, 126, 49]⟩, Value.string ⟨#[103, 105, 116, 109, 111, 100, 126, 52]⟩, Value.string ⟨#[103, 105, 55, 101, 98, 97, 126, 49]⟩, Value.string ⟨#[46, 103, 105, 116, 105, 103, 110, 111, 114, 101]⟩, Value.string ⟨#[103, 105, 116]⟩, Value.string ⟨#[46, 103, 105]⟩, Value.string ⟨#[103, 105, 116, 126, 50]⟩] : Array Value)[i.1]? = some (.string nm)
      | 0 => ⟨_, rfl, rfl⟩
      | 1 => ⟨_, rfl, rfl⟩
      | 2 => ⟨_, rfl, rfl⟩
      | 3 => ⟨_, rfl, rfl⟩
      | 4 => ⟨_, rfl, rfl⟩
      | 5 => ⟨_, rfl, rfl⟩
      | 6 => ⟨_, rfl, rfl⟩
      | 7 => ⟨_, rfl, rfl⟩
      | 8 => ⟨_, rfl, rfl⟩
      | 9 => ⟨_, rfl, rfl⟩
    exact hall ⟨wd % 10, hm⟩
  have hb0 : Below w.heap.size w W ∧ w.heap.size + 1 < W.heap.size := by
    subst hW
    exact ⟨((Below.refl _ _).alloc (Nat.le_refl _) _).alloc (by rw [heap_new_size]; omega) _, by rw [heap_new_size, heap_new_size]; omega⟩
  have hhead : W.cell? ⟨w.heap.size, 0, none⟩ = some (.int .u8 wd) ∧ W.cell? ⟨w.heap.size, 1, none⟩ = some (.slice A1 n1 c1) ∧ W.cell? ⟨w.heap.size, 2, none⟩ = some (.slice A2 n2 c2) := by
    subst hW
    have e : ∀ (C D : Array Value) (j : Nat), ((w.alloc (.cells D 26)).alloc (.cells C 9)).cell? ⟨w.heap.size, j, none⟩ = D[j]? := fun C D j =>
      (World.cell?_alloc_lt _ _ _ (by rw [heap_new_size]; exact Nat.lt_succ_self _)).trans (World.cell?_alloc_mark w D 26 (0, 0) j)
    exact ⟨e _ _ 0, e _ _ 1, e _ _ 2⟩
  clear hW
  obtain ⟨hb0, hsz⟩ := hb0
  have HB0 := Lib.hid hb0; clear hb0
  obtain ⟨nm, hnm, hcl⟩ := hcell
  have hmem : wordOf wd ∈ wordsN := by
    unfold wordOf
    rw [List.getD_eq_getElem?_getD, List.getElem?_eq_getElem (by exact hm)]
    exact List.getElem_mem _
  have hsmall := words_small _ hmem
  rw [← hnm] at hsmall
  have HSM := Lib.hid hsmall; clear hsmall
  have HNM := Lib.hid hnm; clear hnm hmem
  have hns : nm.size ≤ 11 := by rw [← nb_length]; exact HSM.out.1
  obtain ⟨hd0, hd1, hd2⟩ := hhead
  have hmi : ((wd : Int) % 10).toNat = wd % 10 := by omega
  have hlt : (wd : Int) % 10 < 10 := by omega
  have hge : 0 ≤ (wd : Int) % 10 := by omega
  go_wp2
  clear hmi hlt hge hcl
  go_loopw [8, 23] (fun o i wr => ∃ (k : Nat) (ob : ByteArray), k ≤ nm.size ∧ i = .int .i64 k ∧ o = .string ob ∧ ob.size ≤ 4 * k ∧ Written plain nm k ob ∧ Below W.heap.size W wr) (fun _ i _ => nm.size - (intOf i).toNat)
  case atStart => exact ⟨0, ⟨#[]⟩, Nat.zero_le _, rfl, rfl, by decide, ⟨fun _ => rfl, fun _ => ⟨Whole.empty, rfl⟩⟩, Below.refl _ _⟩
  case round =>
    obtain ⟨k, ob, hk, rfl, rfl, hos, hwr, hbw⟩ := hrel
    have e0 := (hbw.cell (p := ⟨w.heap.size, 0, none⟩) (by show w.heap.size < _; omega)).trans hd0
    have e1 := (hbw.cell (p := ⟨w.heap.size, 1, none⟩) (by show w.heap.size < _; omega)).trans hd1
    have e2 := (hbw.cell (p := ⟨w.heap.size, 2, none⟩) (by show w.heap.size < _; omega)).trans hd2
    have HWR := Lib.hid hwr; clear hwr
    have HBW := Lib.hid hbw; clear hbw
    have hbase : Hid (Below w.heap.size w wr) := Lib.hid (HB0.out.trans (HBW.out.mono (by omega)))
    by_cases hlt : k < nm.size
    · have hb := bx_get nm k hlt
      have hbl : bx nm k < 127 ∧ lowN (bx nm k) = bx nm k := by
        have := HSM.out.2 (bx nm k) (by rw [← bx_getElem nm k (by rw [nb_length]; exact hlt)]; exact List.getElem_mem _)
        exact ⟨this.2, this.1⟩
      obtain ⟨hb127, hblow⟩ := hbl
      generalize hc : bx nm k = c at hb hb127 hblow
      have HC := Lib.hid hc; clear hc
      have HLOW := Lib.hid hblow; clear hblow
      go_upto_region 7 with (fail)
      go_cut [34] (fun v wx => v = .bool (!plain && decide (k < n2)) ∧ wx = wr)
      case first =>
        cases plain with
        | true =>
          go_wp2
          go_meet
          case rel => exact ⟨rfl, rfl⟩
        | false =>
          by_cases hk2 : k < n2
          · have hk2' : (k : Int) < n2 := by omega
            go_wp2
            go_meet
            case rel => exact ⟨congrArg Value.bool (by simp [hk2]), rfl⟩
          · have hk2' : ¬ (k : Int) < n2 := by omega
            go_wp2
            go_meet
            case rel => exact ⟨congrArg Value.bool (by simp [hk2]), rfl⟩
      case rest =>
      obtain ⟨rfl, rfl⟩ := hcut
      go_upto_if 34 with (fail)
      go_cut [8] (fun v wx => ∃ ob2 : ByteArray, v = .string ob2 ∧ ob2.size ≤ 4 * k + 3 ∧ Written plain nm k ob2 ∧ Below W.heap.size W wx)
      case first =>
        by_cases hB : (!plain && decide (k < n2)) = true
        · simp only [Bool.and_eq_true, Bool.not_eq_true', decide_eq_true_eq] at hB
          obtain ⟨rfl, hk2⟩ := hB
          have hk2' : (k : Int) < n2 := by omega
          have hdk : (!false && decide (k < n2)) = true := by simp [hk2]
          obtain ⟨b2, off2, rfl, hb2, hcell2⟩ := H2.out k hk2
          have hc8 : wc.cell? ⟨b2, off2 + k, none⟩ = some (.int .u8 (f2 k : Nat)) := (hbase.out.cell (p := ⟨b2, off2 + k, none⟩) hb2).trans hcell2
          have hf8 := HF2.out k
          clear hcell2
          generalize f2 k = x at hc8 hf8
          rw [hdk]
          clear hdk
          go_wp2_with fail
          with_reducible refine (nothing_any _ hf8 _).mono ?_
          rintro e w' ⟨r, rfl, hr, hbn⟩
          have hr3 := (nothing_facts hr).1
          have HR := Lib.hid hr; clear hr
          have HBN := Lib.hid hbn; clear hbn
          have hlen : ¬ 9223372036854775807 < ob.size + r.size := by omega
          go_wp2
          go_meet
          case rel => exact ⟨ob ++ r, rfl, by rw [ByteArray.size_append]; omega, HWR.out.nothing HR.out, HBW.out.trans (HBN.out.mono HBW.out.size)⟩
        · rw [Bool.eq_false_iff.mpr hB]
          go_wp2
          go_meet
          case rel => exact ⟨ob, rfl, by omega, HWR.out, HBW.out⟩
      case rest =>
      obtain ⟨ob2, rfl, hos2, hwz, hbz0⟩ := hcut
      obtain ⟨wz, rfl⟩ : ∃ x, x = wc := ⟨_, rfl⟩
      have HWZ := Lib.hid hwz; clear hwz
      have HBZ := Lib.hid hbz0; clear hbz0
      have hbz : Hid (Below w.heap.size w wz) := Lib.hid (HB0.out.trans (HBZ.out.mono (by omega)))
      have e0 := (HBZ.out.cell (p := ⟨w.heap.size, 0, none⟩) (by show w.heap.size < _; omega)).trans hd0
      have e1 := (HBZ.out.cell (p := ⟨w.heap.size, 1, none⟩) (by show w.heap.size < _; omega)).trans hd1
      have e2 := (HBZ.out.cell (p := ⟨w.heap.size, 2, none⟩) (by show w.heap.size < _; omega)).trans hd2
      go_upto_region 10 with (fail)
      go_cut [66] (fun v wx => (∃ B : Bool, v = .bool B ∧ (B = true → 97 ≤ c ∧ c ≤ 122)) ∧ wx = wz)
      case first =>
        by_cases hk1 : k < n1
        · obtain ⟨b1, off1, rfl, hb1, hcell1⟩ := H1.out k hk1
          have hcz : wz.cell? ⟨b1, off1 + k, none⟩ = some (.bool (f1 k)) := (hbz.out.cell (p := ⟨b1, off1 + k, none⟩) hb1).trans hcell1
          have hk1' : (k : Int) < n1 := by omega
          cases hf : f1 k with
          | true =>
            rw [hf] at hcz
            clear hf hcell1
            by_cases hc1 : (97 : Int) ≤ c
            · go_wp2
              go_meet
              case rel => exact ⟨⟨_, rfl, fun h => by have := of_decide_eq_true h; omega⟩, rfl⟩
            · have hc2 : (c : Int) < 97 := by omega
              go_wp2
              go_meet
              case rel => exact ⟨⟨_, rfl, fun h => absurd h (by decide)⟩, rfl⟩
          | false =>
            rw [hf] at hcz
            clear hf hcell1
            go_wp2
            go_meet
            case rel => exact ⟨⟨_, rfl, fun h => absurd h (by decide)⟩, rfl⟩
        · have hk1' : ¬ (k : Int) < n1 := by omega
          go_wp2
          go_meet
          case rel => exact ⟨⟨_, rfl, fun h => absurd h (by decide)⟩, rfl⟩
      case rest =>
        obtain ⟨⟨B, rfl, hB⟩, rfl⟩ := hcut
        have hconv := fun x : Nat => conv1 x
        have hgrow : Hid (∀ x : Nat, Below W.heap.size W (wc.alloc (.cells #[.int .u8 (x : Int)] 5))) := Lib.hid (fun x => HBZ.out.alloc (HBZ.out.size) _)
        have hlen : ∀ x : Int, ¬ 9223372036854775807 < ob2.size + (strOfNums [x]).size := fun x => by rw [strOfNums_size]; simp; omega
        cases B with
        | true =>
          obtain ⟨hc97, hc122⟩ := hB rfl
          clear hB
          have hsub : (c : Int) - 32 = ((c - 32 : Nat) : Int) := by omega
          have hcc : Hid (lowN (c - 32) = bx nm k) := Lib.hid (by rw [HC.out]; unfold lowN; rw [if_pos (by omega)]; omega)
          go_wp2
          go_roundw
          case rel =>
            refine ⟨k + 1, _, by omega, by go_num, rfl, ?_, HWZ.out.letter hlt hcc.out (by omega) _ (nb_strOfNums [c - 32] (by intro d hd; rw [List.mem_singleton] at hd; omega)), hgrow.out _⟩
            rw [ByteArray.size_append, strOfNums_size]; simp; omega
          case measure => simp [intOf]; omega
        | false =>
          clear hB
          have hcc : Hid (lowN c = bx nm k) := Lib.hid (by rw [HC.out]; exact HLOW.out)
          go_wp2
          go_roundw
          case rel =>
            refine ⟨k + 1, _, by omega, by go_num, rfl, ?_, HWZ.out.letter hlt hcc.out (by omega) _ (nb_strOfNums [c] (by intro d hd; rw [List.mem_singleton] at hd; omega)), hgrow.out _⟩
            rw [ByteArray.size_append, strOfNums_size]; simp; omega
          case measure => simp [intOf]; omega
    · obtain rfl : k = nm.size := by omega
      cases plain with
      | true =>
        go_wp2
        go_ret2
        exact ⟨ob, nm, rfl, HNM.out, by omega, (HWR.out.done).1, (HWR.out.done).2, hbase.out⟩
      | false =>
        by_cases hk2 : nm.size < n2
        · have hk2' : (nm.size : Int) < n2 := by omega
          obtain ⟨b2, off2, rfl, hb2, hcell2⟩ := H2.out nm.size hk2
          have hc8 : wr.cell? ⟨b2, off2 + nm.size, none⟩ = some (.int .u8 (f2 nm.size : Nat)) := (hbase.out.cell (p := ⟨b2, off2 + nm.size, none⟩) hb2).trans hcell2
          have hf8 := HF2.out nm.size
          clear hcell2
          generalize f2 nm.size = x at hc8 hf8
          go_wp2_with fail
          with_reducible refine (nothing_any _ hf8 _).mono ?_
          rintro e w' ⟨r, rfl, hr, hbn⟩
          have hr3 := (nothing_facts hr).1
          have HR := Lib.hid hr; clear hr
          have HBN := Lib.hid hbn; clear hbn
          have hlen : ¬ 9223372036854775807 < ob.size + r.size := by omega
          have hos2 : (ob ++ r).size ≤ 50 := by rw [ByteArray.size_append]; omega
          go_wp2
          go_ret2
          exact ⟨ob ++ r, nm, rfl, HNM.out, by omega, ((HWR.out.nothing HR.out).done).1, ((HWR.out.nothing HR.out).done).2, hbase.out.trans (HBN.out.mono hbase.out.size)⟩
        · have hk2' : ¬ (nm.size : Int) < n2 := by omega
          go_wp2
          go_ret2
          exact ⟨ob, nm, rfl, HNM.out, by omega, (HWR.out.done).1, (HWR.out.done).2, hbase.out⟩
end Go.Proofs.YtdmkjfkdjhmpjaaDoor
