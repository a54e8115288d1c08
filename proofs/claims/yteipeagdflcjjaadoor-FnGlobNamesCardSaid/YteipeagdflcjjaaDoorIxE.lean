/- index's getEsc and scanChunk, and utf8's first rune of a text of plain bytes. -/
import Derived.Test.YteipeagdflcjjaaDoorIxP
import Derived.Laws.IdiomStrings
import Derived.Lib.OthersKept
import Derived.Deep.DeepCutAuto
import Derived.Deep.QuietTactic
import Derived.BigQuiet
import Derived.Deep.CutBlock
import Derived.WalkMore
namespace Go.Proofs.YteipeagdflcjjaaDoor.Ix
open Go.RowKit
set_option linter.unusedSimpArgs false
set_option linter.unusedVariables false

set_option maxHeartbeats 400000 in
theorem decode_any (s : ByteArray) (w : World) (h1 : 1 ≤ s.size) (hx : bx s 0 < 128) :
    Calls Tryd.prog 88 #[.string s] w fun e w' => e = .returned (.tuple #[.int .i32 (bx s 0 : Nat), .int .i64 1]) ∧ w = w' := by
  have hb := bx_get s 0 (by omega)
  have hn := isEmpty_str_not s (by omega)
  generalize bx s 0 = x at *
  have q : (x : Int) < 128 := by omega
  go_enter Tryd.func88, Tryd.ntmps88
  go_wp2
  go_ret2
  exact ⟨rfl, rfl⟩

set_option maxHeartbeats 1000000 in
theorem getEsc_any (s : ByteArray) (w : World) (h1 : 2 ≤ s.size) (hs : s.size ≤ 1000) (ha : Asc s) (hl : letter (bx s 0)) :
    Calls Tryd.prog 89 #[.string s] w fun e w' => e = .returned (.tuple #[.int .i32 (bx s 0 : Nat), .string (s.extract 1 s.size), .nilIface]) ∧ w = w' := by
  have hb := bx_get s 0 (by omega)
  have hx := ha 0 (by omega)
  have HX := Lib.hid hx
  obtain ⟨hl1, hl2⟩ := hl
  generalize hc : bx s 0 = c at hb hx hl1 hl2
  have HC := Lib.hid hc; clear hc ha
  have e1 : ((s.size : Int) == 0) = false := beq_eq_false_iff_ne.mpr (by omega)
  have e2 : ((c : Int) == 45) = false := by simp; omega
  have e3 : ((c : Int) == 93) = false := by simp; omega
  have e4 : ((c : Int) == 92) = false := by simp; omega
  have e5 : ((c : Int) == 65533) = false := beq_eq_false_iff_ne.mpr (by omega)
  have hz : (s.extract 1 s.size).size = s.size - 1 := size_tail s 1
  have e6 : (((s.extract 1 s.size).size : Int) == 0) = false := beq_eq_false_iff_ne.mpr (by rw [hz]; omega)
  clear hz
  go_enter Tryd.func89, Tryd.ntmps89
  go_wp2_with fail
  with_reducible refine (decode_any s w (by omega) HX.out).mono ?_
  rintro e w' ⟨rfl, rfl⟩
  rw [HC.out]
  go_wp2
  go_ret3
  exact ⟨rfl, rfl⟩

/-- What a chunk's cut answers. -/
def ScanPost (t : Tok) (r : List Tok) (w : World) (e : Ending) (w' : World) : Prop :=
  ∃ cb pb : ByteArray, e = .returned (.tuple #[.bool t.isStar, .string cb, .string pb]) ∧ nb cb = texts (chOf (t :: r)) ∧ nb pb = texts (restOf (t :: r)) ∧ cb.size ≤ 1000 ∧ pb.size ≤ 1000 ∧ ∃ m, w' = w.drewN m
set_option maxRecDepth 100000 in
set_option maxHeartbeats 4000000 in
theorem scanChunk_any (t : Tok) (r : List Tok) (pb : ByteArray) (w : World) (hT : nb pb = texts (t :: r)) (hg : ∀ x ∈ t :: r, gd x) (hp : pb.size ≤ 1000) :
    Calls Tryd.prog 73 #[.string pb] w (ScanPost t r w) := by
  have START : Hid (Strip (t :: r) (t :: r) pb false) := Lib.hid ⟨hT, rfl, fun h => (by cases h), fun _ => rfl, hg, hp⟩
  have HGD := Lib.hid hg
  clear hT hg
  go_enter Tryd.func73, Tryd.ntmps73
  go_upto_block 0 with (fail)
  go_step3
  go_upto_block 0 with (fail)
  go_cut [0, 2] (fun p bb wx => ∃ pb2 : ByteArray, p = .string pb2 ∧ bb = .bool t.isStar ∧ nb pb2 = texts (noStars (t :: r)) ∧ pb2.size ≤ 1000 ∧ ∃ m, wx = w.drewN m)
  case first => as_aux_lemma =>
    go_wp2_with fail
    go_loop [0, 2] (fun p bb => ∃ B pb2 b2, p = .string pb2 ∧ bb = .bool b2 ∧ Strip (t :: r) B pb2 b2) (fun p _ => (strOf p).size)
    case atStart => exact ⟨_, _, false, rfl, rfl, START.out⟩
    case round =>
      obtain ⟨B, pb2, b2, rfl, rfl, hs⟩ := hrel
      have HS := Lib.hid hs; clear hs
      cases B with
      | nil =>
        have hz : pb2.size = 0 := size_nil HS.out.text
        have HF := Lib.hid (HS.out.fin rfl)
        go_wp2
        go_meet
        case rel => exact ⟨pb2, rfl, congrArg Value.bool HF.out.2, HF.out.1, HS.out.small, 0, rfl⟩
      | cons x B =>
        have hz : 1 ≤ pb2.size := by
          rw [← nb_length, HS.out.text, texts_cons, List.length_append]
          have := List.length_pos_iff.mpr (text_ne x)
          omega
        have hb := bx_get pb2 0 hz
        rcases head_textG x (HS.out.good x (by simp)) (texts B) with ⟨hx, ht⟩ | ⟨hx, c, l, ht, hc⟩
        · rw [bx_of (HS.out.text.trans ht)] at hb
          have HN := Lib.hid (HS.out.step hx)
          have hsz : (pb2.extract 1 pb2.size).size < pb2.size := by rw [size_tail]; omega
          have HSZ := Lib.hid hsz
          clear ht hsz
          go_wp2
          go_round
          case rel => exact ⟨B, _, true, rfl, rfl, HN.out⟩
          case measure => have := HSZ.out; simp [strOf] at this ⊢; omega
        · rw [bx_of (HS.out.text.trans ht)] at hb
          have HF := Lib.hid (HS.out.fin (noStars_none x B hx))
          have q : ((c : Int) == 42) = false := beq_eq_false_iff_ne.mpr (by omega)
          clear ht
          go_wp2
          go_meet
          case rel => exact ⟨pb2, rfl, congrArg Value.bool HF.out.2, HF.out.1, HS.out.small, 0, rfl⟩
  case rest =>
    clear START
    obtain ⟨pb2, rfl, rfl, htx, hp2, m0, rfl⟩ := hcut
    have HPARTS := Lib.hid (chunk_parts htx HGD.out)
    have HI : Hid (∀ i, i ≤ pb2.size → scanI (nb pb2) false = i → nb (pb2.extract 0 i) = texts (chOf (t :: r)) ∧ nb (pb2.extract i pb2.size) = texts (restOf (t :: r))) := Lib.hid fun i _ e => by rw [← e]; exact ⟨HPARTS.out.1, HPARTS.out.2.1⟩
    clear htx HPARTS
    go_wp2
    go_step3
    go_wp2
    go_loop [5, 6] (fun f v => ∃ (i : Nat) (inr : Bool), f = .bool inr ∧ v = .int .i64 i ∧ Scan pb2 i inr) (fun _ v => pb2.size - (intOf v).toNat)
    case atStart => exact ⟨0, false, rfl, rfl, Scan.start pb2⟩
    case round =>
      obtain ⟨i, inr, rfl, rfl, hs⟩ := hrel
      have hil := hs.le
      have HS := Lib.hid hs; clear hs
      by_cases hlt : i < pb2.size
      · have hb := bx_get pb2 i hlt
        generalize hcc : bx pb2 i = c at hb
        have HC := Lib.hid hcc; clear hcc
        by_cases h92 : c = 92
        · have HC2 : Hid (bx pb2 i = 92) := Lib.hid (HC.out.trans h92)
          subst h92
          by_cases hl2 : (i : Int) + 1 < pb2.size
          · have HN := Lib.hid (HS.out.esc (by omega) HC2.out)
            go_wp2
            go_round
            case rel => exact ⟨i + 2, inr, rfl, by go_num, HN.out⟩
            case measure => simp [intOf] <;> omega
          · have HN := Lib.hid (HS.out.esc1 hlt (by omega) HC2.out)
            go_wp2
            go_round
            case rel => exact ⟨i + 1, inr, rfl, by go_num, HN.out⟩
            case measure => simp [intOf] <;> omega
        · have q92 : ((c : Int) == 92) = false := beq_eq_false_iff_ne.mpr (by omega)
          by_cases h91 : c = 91
          · have q91 : ((c : Int) == 91) = true := beq_iff_eq.mpr (by omega)
            have HN : Hid (Scan pb2 (i + 1) true) := Lib.hid (HS.out.next hlt (by rw [HC.out]; exact h92) (by rw [HC.out]; simp [h91]) (by rw [HC.out]; intro h; omega))
            go_wp2
            go_round
            case rel => exact ⟨i + 1, true, rfl, by go_num, HN.out⟩
            case measure => simp [intOf] <;> omega
          · have q91 : ((c : Int) == 91) = false := beq_eq_false_iff_ne.mpr (by omega)
            by_cases h93 : c = 93
            · have q93 : ((c : Int) == 93) = true := beq_iff_eq.mpr (by omega)
              have HN : Hid (Scan pb2 (i + 1) false) := Lib.hid (HS.out.next hlt (by rw [HC.out]; exact h92) (by rw [HC.out]; simp [h93]) (by rw [HC.out]; intro h; omega))
              go_wp2
              go_round
              case rel => exact ⟨i + 1, false, rfl, by go_num, HN.out⟩
              case measure => simp [intOf] <;> omega
            · have q93 : ((c : Int) == 93) = false := beq_eq_false_iff_ne.mpr (by omega)
              by_cases h42 : c = 42
              · have q42 : ((c : Int) == 42) = true := beq_iff_eq.mpr (by omega)
                cases inr with
                | true =>
                  have HN : Hid (Scan pb2 (i + 1) true) := Lib.hid (HS.out.next hlt (by rw [HC.out]; exact h92) (by rw [HC.out, if_neg h91, if_neg h93]) (fun _ => rfl))
                  go_wp2
                  go_round
                  case rel => exact ⟨i + 1, true, rfl, by go_num, HN.out⟩
                  case measure => simp [intOf] <;> omega
                | false =>
                  have HF := Lib.hid (HI.out i hil (HS.out.stop hlt (by rw [HC.out]; exact h42)))
                  have hz1 : (pb2.extract 0 i).size ≤ 1000 := by rw [ByteArray.size_extract]; omega
                  have hz2 : (pb2.extract i pb2.size).size ≤ 1000 := by rw [size_tail]; omega
                  have HZ := Lib.hid (And.intro hz1 hz2); clear hz1 hz2
                  go_wp2
                  go_quiet (fail)
                  go_wp2
                  go_ret3
                  exact ⟨_, _, rfl, HF.out.1, HF.out.2, HZ.out.1, HZ.out.2, _, by first | rfl | exact World.drewN_drewN _ _ _⟩
              · have q42 : ((c : Int) == 42) = false := beq_eq_false_iff_ne.mpr (by omega)
                have HN : Hid (Scan pb2 (i + 1) inr) := Lib.hid (HS.out.next hlt (by rw [HC.out]; exact h92) (by rw [HC.out, if_neg h91, if_neg h93]) (by rw [HC.out]; intro h; exact absurd h h42))
                go_wp2
                go_round
                case rel => exact ⟨i + 1, inr, rfl, by go_num, HN.out⟩
                case measure => simp [intOf] <;> omega
      · have HF := Lib.hid (HI.out i hil (HS.out.end_ hlt))
        have hz1 : (pb2.extract 0 i).size ≤ 1000 := by rw [ByteArray.size_extract]; omega
        have hz2 : (pb2.extract i pb2.size).size ≤ 1000 := by rw [size_tail]; omega
        have HZ := Lib.hid (And.intro hz1 hz2); clear hz1 hz2
        go_wp2
        go_quiet (fail)
        go_wp2
        go_ret3
        exact ⟨_, _, rfl, HF.out.1, HF.out.2, HZ.out.1, HZ.out.2, _, by first | rfl | exact World.drewN_drewN _ _ _⟩
end Go.Proofs.YteipeagdflcjjaaDoor.Ix
