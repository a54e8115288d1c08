/- The reference's answer on HFS+: spec.DisguiseHFS. -/
import Derived.Test.YtdmkjfkdjhmpjaaDot
import Derived.Test.YtdmkjfkdjhmpjaaUtf
import Derived.Laws.Cover4
import Derived.Deep.DeepCutAuto
namespace Go.Proofs.Ytdmkjfkdjhmpjaa
open Go.RowKit
set_option linter.unusedSimpArgs false
set_option linter.unusedVariables false

/-- Code points as bytes. -/
def encN (R : List Nat) : List Nat := R.flatMap fun r : Nat => nb (Utf8.encode (r : Int))

theorem encode_low {r : Nat} (h : r < 128) : nb (Utf8.encode (r : Int)) = [r] := by
  have hv : Utf8.valid (r : Int) = true := by
    simp only [Utf8.valid, Bool.or_eq_true, Bool.and_eq_true, decide_eq_true_eq]; omega
  unfold Utf8.encode
  rw [hv]
  simp only [if_true, Int.toNat_natCast]
  rw [if_pos (by omega)]
  simp [nb]
  omega
theorem encode_high {r : Nat} (h : 128 ≤ r) (hr : r < 1114112) : ∃ c l, nb (Utf8.encode (r : Int)) = c :: l ∧ 128 ≤ c := by
  unfold Utf8.encode
  have key : ∀ n : Nat, 128 ≤ n → n < 1114112 → ∃ c l, nb (if n < 0x80 then ⟨#[UInt8.ofNat n]⟩
      else if n < 0x800 then ⟨#[UInt8.ofNat (0xC0 + n / 64), UInt8.ofNat (0x80 + n % 64)]⟩
      else if n < 0x10000 then ⟨#[UInt8.ofNat (0xE0 + n / 4096), UInt8.ofNat (0x80 + n / 64 % 64), UInt8.ofNat (0x80 + n % 64)]⟩
      else ⟨#[UInt8.ofNat (0xF0 + n / 262144), UInt8.ofNat (0x80 + n / 4096 % 64), UInt8.ofNat (0x80 + n / 64 % 64), UInt8.ofNat (0x80 + n % 64)]⟩) = c :: l ∧ 128 ≤ c := by
    intro n h1 h2
    rw [if_neg (by omega)]
    split
    · refine ⟨_, _, rfl, ?_⟩; simp; omega
    · split
      · refine ⟨_, _, rfl, ?_⟩; simp; omega
      · refine ⟨_, _, rfl, ?_⟩; simp; omega
  cases hv : Utf8.valid (r : Int) with
  | true => simpa using key r h hr
  | false => exact key Utf8.runeError (by decide) (by decide)

/-- Bytes of code points are a text of ASCII letters just if the code points are. -/
theorem enc_ascii : ∀ (R A : List Nat), (∀ r ∈ R, r < 1114112) → (∀ a ∈ A, a < 128) → (lowS (encN R) == A) = (lowS R == A)
  | [], A, _, _ => rfl
  | r :: R, A, hR, hA => by
    have ih := fun A' h => enc_ascii R A' (fun x hx => hR x (List.mem_cons_of_mem _ hx)) h
    by_cases h : r < 128
    · have e : encN (r :: R) = r :: encN R := by unfold encN; rw [List.flatMap_cons, encode_low h]; rfl
      rw [e]
      cases A with
      | nil => rfl
      | cons a A =>
        have := ih A (fun x hx => hA x (List.mem_cons_of_mem _ hx))
        show (lowN r == a && (lowS (encN R) == A)) = (lowN r == a && (lowS R == A))
        rw [this]
    · obtain ⟨c, l, hc, hc128⟩ := encode_high (by omega) (hR r (List.mem_cons_self ..))
      have e : encN (r :: R) = c :: (l ++ encN R) := by unfold encN; rw [List.flatMap_cons, hc]; rfl
      rw [e]
      cases A with
      | nil => rfl
      | cons a A =>
        have ha := hA a (List.mem_cons_self ..)
        show (lowN c == a && (lowS (l ++ encN R) == A)) = (lowN r == a && (lowS R == A))
        have h1 := lowN_high hc128
        have h2 := lowN_high (c := r) (by omega)
        rw [beq_eq_false_iff_ne.mpr (show lowN c ≠ a by omega), beq_eq_false_iff_ne.mpr (show lowN r ≠ a by omega)]
        rfl

theorem runesN_step (s : ByteArray) (pos : Nat) (h : pos < s.size) : runesN s s.size pos = (Utf8.decode s pos).1 :: runesN s s.size (pos + (Utf8.decode s pos).2) := by
  obtain ⟨b, hb⟩ : ∃ b, s.size = b + 1 := ⟨s.size - 1, by omega⟩
  have := decode_pos s pos
  rw [hb, runesN, if_pos h, ← runesN_fuel s b _ (by omega)]

theorem encN_append (a b : List Nat) : encN (a ++ b) = encN a ++ encN b := List.flatMap_append ..

theorem conv_rune (r : Nat) (W : World) : (convert 42 9 (.slice (some ⟨W.heap.size, 0, none⟩) 1 1)).run Try.prog (W.alloc (.cells #[.int .i32 (r : Int)] 21)) = .ok (.string (runesBytes [(r : Int)])) (W.alloc (.cells #[.int .i32 (r : Int)] 21)) := by
  have := run_convert_runes (P := Try.prog) (W.alloc (.cells #[.int .i32 (r : Int)] 21)) 42 9 21 ⟨W.heap.size, 0, none⟩ 1 1 [(r : Int)] (Nat.le_refl _) runesKind runeKind strKind (fun j hj => by
    obtain rfl : j = 0 := by simpa using hj
    exact World.cell?_alloc_mark W #[.int .i32 (r : Int)] 21 (0, 0) 0)
  exact this

theorem nb_runesBytes (r : Nat) : nb (runesBytes [(r : Int)]) = encN [r] := by
  have e : nb ByteArray.empty = [] := rfl
  unfold runesBytes encN
  rw [List.foldl_cons, List.foldl_nil, List.flatMap_cons, List.flatMap_nil, List.append_nil, nb_append, e, List.nil_append]

set_option maxHeartbeats 2000000 in
theorem specHFS_any (s nd : ByteArray) (w : World) (hs : s.size ≤ 70368744177664) (hn : nd.size ≤ 100) (hasc : ∀ c ∈ nb nd, c < 128) :
    Calls Try.prog 14 #[.string s, .string nd] w fun e w' => e = .returned (.bool (hfsDot (runes s) (nb nd))) ∧ Below w.heap.size w w' := by
  have HASC := Lib.hid hasc; clear hasc
  go_enter Try.func14, Try.ntmps14
  go_wp2
  have hit : (w.iter s 0).heap[w.heap.size]? = some (.stringIter s 0) := World.iter_heap w s 0
  have hb0 : Below w.heap.size w (w.iter s 0) := (Below.refl _ _).alloc (Nat.le_refl _) _
  generalize w.iter s 0 = w1 at hit hb0
  have HIT := Lib.hid hit; clear hit
  have HB0 := Lib.hid hb0; clear hb0
  go_loopw [5] (fun l wr => ∃ (pos : Nat) (left : ByteArray) (R1 : List Nat), l = .string left ∧ wr.heap[w.heap.size]? = some (.stringIter s pos) ∧ Below w.heap.size w wr ∧ runes s = R1 ++ runesN s s.size pos ∧ left.size ≤ 4 * R1.length ∧ nb left = encN (keep R1)) (fun _ wr => s.size - wr.iterPos w.heap.size)
  case atStart => exact ⟨0, ⟨#[]⟩, [], rfl, HIT.out, HB0.out, rfl, Nat.le_refl _, rfl⟩
  case round =>
    obtain ⟨pos, left, R1, rfl, hit, hbw, hR, hls, hle⟩ := hrel
    have hR1 : R1.length ≤ s.size := by
      have h1 := congrArg List.length hR
      have h2 := runesN_length s s.size 0
      rw [List.length_append] at h1
      unfold runes at h1
      omega
    have HR := Lib.hid hR; clear hR
    have HLE := Lib.hid hle; clear hle
    by_cases hlt : pos < s.size
    · have hnx := Lib.run_next_any_at (P := Try.prog) wr w.heap.size s pos 0 hit hlt
      have hstep := runesN_step s pos hlt
      have hwd := decode_pos s pos
      have hsm := decode_small s pos
      have hp1 : wr.iterPos w.heap.size = pos := by simp [World.iterPos, hit]
      have HP1 := Lib.hid hp1; clear hp1
      generalize hr : (Utf8.decode s pos).1 = r at hnx hstep hsm
      generalize hv : (Utf8.decode s pos).2 = v at hnx hstep hwd
      clear hr hv
      have HST := Lib.hid hstep; clear hstep
      have hi2 := Lib.iterAt_heap wr w.heap.size s pos (pos + v) hit
      have hb2 : Below w.heap.size w (wr.iterAt w.heap.size s (pos + v)) := Lib.below_iterAt hbw (Nat.le_refl _) _ _
      clear hit hbw
      go_upto_region 5 with (fail)
      generalize wr.iterAt w.heap.size s (pos + v) = w3 at hi2 hb2
      clear hnx
      have hp2 : w3.iterPos w.heap.size = pos + v := by simp [World.iterPos, hi2]
      have HI2 := Lib.hid hi2; clear hi2
      have HP2 := Lib.hid hp2; clear hp2
      have HB2 := Lib.hid hb2; clear hb2
      go_cut [8] (fun x wx => x = .bool (ign r) ∧ wx = w3)
      case first =>
        go_wp2
        all_goals
          go_meet
          case rel =>
            refine ⟨congrArg Value.bool ?_, rfl⟩
            rw [Bool.eq_iff_iff, ign_iff]
            simp only [decide_eq_true_eq, beq_iff_eq, true_iff, Bool.false_eq_true, false_iff]
            omega
      case rest =>
        obtain ⟨rfl, rfl⟩ := hcut
        cases hig : ign r with
        | true =>
          have HIG := Lib.hid hig; clear hig
          go_wp2
          go_roundw
          case rel =>
            refine ⟨pos + v, left, R1 ++ [r], rfl, HI2.out, HB2.out, ?_, ?_, ?_⟩
            · rw [HR.out, HST.out]; simp
            · simp; omega
            · rw [HLE.out, keep_append]; simp [keep, HIG.out]
          case measure => rw [HP1.out, HP2.out]; omega
        | false =>
          have HIG := Lib.hid hig; clear hig
          have hcv := conv_rune r wc
          have hrs : (runesBytes [(r : Int)]).size ≤ 4 := runesBytes_size_le [(r : Int)]
          have hlen : ¬ 9223372036854775807 < left.size + (runesBytes [(r : Int)]).size := by omega
          have hi4 : Hid ((wc.alloc (.cells #[.int .i32 (r : Int)] 21)).heap[w.heap.size]? = some (.stringIter s (pos + v))) := Lib.hid (by
            rw [Below.heap_alloc _ _ _ (Array.getElem?_eq_some_iff.1 HI2.out).1]; exact HI2.out)
          have hp4 : Hid ((wc.alloc (.cells #[.int .i32 (r : Int)] 21)).iterPos w.heap.size = pos + v) := Lib.hid (by simp only [World.iterPos, hi4.out])
          have hb4 : Hid (Below w.heap.size w (wc.alloc (.cells #[.int .i32 (r : Int)] 21))) := Lib.hid (HB2.out.alloc HB2.out.size _)
          have hnl : Hid (nb (left ++ runesBytes [(r : Int)]) = encN (keep (R1 ++ [r]))) := Lib.hid (by
            rw [nb_append, HLE.out, nb_runesBytes, keep_append, encN_append]; simp [keep, HIG.out])
          have hns : Hid ((left ++ runesBytes [(r : Int)]).size ≤ 4 * (R1 ++ [r]).length) := Lib.hid (by rw [ByteArray.size_append, List.length_append]; simp; omega)
          go_wp2
          go_roundw
          case rel =>
            refine ⟨pos + v, _, R1 ++ [r], rfl, hi4.out, hb4.out, ?_, hns.out, hnl.out⟩
            rw [HR.out, HST.out]; simp
          case measure => rw [HP1.out, hp4.out]; omega
    · have hnx := Lib.run_next_end_at (P := Try.prog) wr w.heap.size s pos 0 hit hlt
      have HBW := Lib.hid hbw; clear hbw hit
      have hfin : hfsDot (runes s) (nb nd) = (lowS (nb left) == 46 :: nb nd) := by
        have e : runesN s s.size pos = [] := by
          cases hs : s.size with
          | zero => rfl
          | succ b => rw [runesN, if_neg (by omega)]
        rw [HLE.out]
        have hall : ∀ x ∈ keep R1, x < 1114112 := fun x hx => by
          have h1 : x ∈ runes s := by rw [HR.out]; exact List.mem_append_left _ (List.mem_filter.mp hx).1
          exact runesN_lt s s.size 0 x h1
        rw [enc_ascii _ _ hall (fun a ha => by
          rcases List.mem_cons.mp ha with rfl | ha
          · decide
          · exact HASC.out a ha)]
        unfold hfsDot
        rw [rest_zero, HR.out, e, List.append_nil]
      have HFIN := Lib.hid hfin; clear hfin
      have HLS : Hid (left.size ≤ maxLen) := Lib.hid (by unfold maxLen; omega)
      go_wp2_with fail
      with_reducible refine (confLower_any _ _ HLS.out).mono ?_
      rintro e w5 ⟨lo, rfl, hlo, hb⟩
      have HLO := Lib.hid hlo; clear hlo
      have B5 := Lib.hid (HBW.out.trans (hb.mono HBW.out.size)); clear hb hnx
      have hlen : ¬ 9223372036854775807 < 1 + nd.size := by omega
      go_wp2
      go_ret
      refine ⟨ret_bool ?_, B5.out⟩
      rw [HFIN.out, beq_str2, HLO.out, nb_append]; rfl
end Go.Proofs.Ytdmkjfkdjhmpjaa
