/- FnDisguiseModules: the walk. -/
import Derived.Test.YtdmkjfkdjhmpjaaSpecM
import Derived.Test.YtdmkjfkdjhmpjaaDisguise
import Derived.Test.YtdmkjfkdjhmpjaaHeadArg
namespace Go.Proofs.Ytdmkjfkdjhmpjaa
open Go.RowKit
set_option linter.unusedSimpArgs false
set_option linter.unusedVariables false

/-- Points and blanks alone. -/
def Behind (b : ByteArray) : Prop := ∀ c ∈ nb b, c = 46 ∨ c = 32
theorem tail_behind : ∀ l : List Nat, (∀ c ∈ l, c = 46 ∨ c = 32) → tailOk l = true
  | [], _ => rfl
  | c :: l, h => by
    have hc := h c (List.mem_cons_self ..)
    unfold tailOk
    rw [if_neg (by omega), if_pos hc]
    exact tail_behind l fun x hx => h x (List.mem_cons_of_mem _ hx)

theorem Behind.add {b x : ByteArray} (h : Behind b) {c : Nat} (hc : c = 46 ∨ c = 32) (hx : nb x = [c] := by rfl) : Behind (b ++ x) := by
  intro d hd
  rw [nb_append, List.mem_append] at hd
  rcases hd with hd | hd
  · exact h d hd
  · rw [hx, List.mem_singleton] at hd; rw [hd]; exact hc

/-- A short name by the letters of the sum, written so far. -/
structure Shorted (n k : Nat) (o : ByteArray) : Prop where
  size : o.size + k = 8
  pre : ∀ j, j < n → bx o j = sumN.getD j 0
  tilde : bx o n = 126
  digits : ∀ j, n + 1 ≤ j → j < o.size → 49 ≤ bx o j ∧ bx o j ≤ 57

theorem Shorted.digit {n k d : Nat} {o : ByteArray} (h : Shorted n (k + 1) o) (hn : n < o.size) (hd : 49 ≤ d ∧ d ≤ 57) (x : ByteArray) (hx : nb x = [d]) : Shorted n k (o ++ x) := by
  have hs : x.size = 1 := by rw [← nb_length, hx]; rfl
  have hb : bx x 0 = d := by unfold bx; rw [hx]; rfl
  refine ⟨by rw [ByteArray.size_append]; have := h.size; omega, fun j hj => ?_, ?_, fun j h1 h2 => ?_⟩
  · rw [bx_append_left _ _ _ (by omega)]; exact h.pre j hj
  · rw [bx_append_left _ _ _ hn]; exact h.tilde
  · rw [ByteArray.size_append] at h2
    by_cases e : j = o.size
    · subst e
      have := bx_append_right o x 0
      rw [Nat.add_zero] at this
      rw [this, hb]; exact hd
    · rw [bx_append_left _ _ _ (by omega)]; exact h.digits j h1 (by omega)

theorem lowN_sum (j : Nat) : lowN (sumN.getD j 0) = sumN.getD j 0 := by
  match j with
  | 0 => rfl
  | 1 => rfl
  | 2 => rfl
  | 3 => rfl
  | 4 => rfl
  | 5 => rfl
  | j + 6 => simp [sumN, lowN]

theorem Shorted.modules {n : Nat} {o b : ByteArray} (h : Shorted n 0 o) (hn : n ≤ 6) (hb : Behind b) : modules (o ++ b) := by
  have h8 : o.size = 8 := by have := h.size; omega
  refine .inr ⟨by rw [ByteArray.size_append]; omega, ?_, .inr ⟨n, ⟨hn, fun j hj => ?_, ?_, ?_, fun j h1 h2 => ?_⟩⟩⟩
  · rw [nb_append, List.drop_append_of_le_length (by rw [nb_length]; omega), List.drop_eq_nil_of_le (by rw [nb_length]; omega), List.nil_append]
    exact tail_behind _ hb
  · rw [bx_append_left _ _ _ (by omega), h.pre j hj, lowN_sum]
  · rw [bx_append_left _ _ _ (by omega)]; exact h.tilde
  · rw [bx_append_left _ _ _ (by omega)]; exact h.digits _ (by omega) (by omega)
  · rw [bx_append_left _ _ _ (by omega)]
    have := h.digits j (by omega) (by omega); omega

theorem shorted_start (n : Nat) (hn : n ≤ 6) : Shorted n (7 - n) ((⟨#[103, 105, 55, 101, 98, 97]⟩ : ByteArray).extract 0 n ++ (⟨#[126]⟩ : ByteArray)) := by
  have hx : ((⟨#[103, 105, 55, 101, 98, 97]⟩ : ByteArray).extract 0 n).size = n := by rw [ByteArray.size_extract]; show min n 6 - 0 = n; omega
  refine ⟨?_, fun j hj => ?_, ?_, fun j h1 h2 => ?_⟩
  · rw [ByteArray.size_append, hx]; show n + 1 + (7 - n) = 8; omega
  · rw [bx_append_left _ _ _ (by omega), bx_extract _ _ _ _ (by omega), Nat.zero_add]; rfl
  · have := bx_append_right ((⟨#[103, 105, 55, 101, 98, 97]⟩ : ByteArray).extract 0 n) (⟨#[126]⟩ : ByteArray) 0
    rw [hx, Nat.add_zero] at this
    rw [this]; rfl
  · rw [ByteArray.size_append, hx] at h2
    have : j < n + 1 := h2
    omega

theorem conv1i (x : Int) (W : World) : (convert 23 9 (.slice (some ⟨W.heap.size, 0, none⟩) 1 1)).run Try.prog (W.alloc (.cells #[.int .u8 x] 5)) = .ok (.string (strOfNums [x])) (W.alloc (.cells #[.int .u8 x] 5)) := by
  refine run_convert_bytes_arg _ 23 5 bytesKind byteKind W.heap.size 0 1 1 [x] rfl (fun i hi => ?_) 9 strKind
  obtain rfl : i = 0 := by omega
  exact World.cell?_alloc_mark W #[.int .u8 x] 5 (0, 0) 0

set_option maxRecDepth 100000 in
set_option maxHeartbeats 2000000 in
theorem lawMod_any (wd : Nat) (A1 A2 : Option Addr) (n1 c1 n2 c2 : Nat) (f1 : Nat → Bool) (f2 : Nat → Nat) (lt nm : Nat) (At : Option Addr) (nt ct : Nat) (ft : Nat → Bool) (w : World)
    (h : HeadArg w wd A1 A2 n1 n2 f1 f2) (hlt : lt < 256) (hnm : nm < 256) (hr : Rd w At nt (fun i => .bool (ft i))) :
    Calls Try.prog 4 #[.agg #[.int .u8 wd, .slice A1 n1 c1, .slice A2 n2 c2], .int .u8 lt, .int .u8 nm, .slice At nt ct] w (TrueBelow w) := by
  have HH := Lib.hid h; clear h
  have HR := Lib.hid hr; clear hr
  go_enter Try.func4, Try.ntmps4
  go_upto_region 1 with (fail)
  generalize hW : w.alloc _ = W
  have hW2 : Boxed w W wd A1 A2 n1 c1 n2 c2 := by subst hW; exact Boxed.new w wd A1 A2 n1 c1 n2 c2
  clear hW
  have HW := Lib.hid hW2
  obtain ⟨d0, d1, d2⟩ := hW2.cells (Below.refl _ _)
  clear hW2
  go_cut [25] (fun v wx => ∃ B : Bool, v = .bool B ∧ (B = false → n1 ≤ 2147483647 ∧ n2 ≤ 2147483647 ∧ nt ≤ 2147483647) ∧ Below W.heap.size W wx)
  case first =>
    go_wp2_with (go_at_call 8; ((with_reducible refine (fits17_any _ _ _ _ _ _ _ _).mono ?_); rintro e w1 ⟨rfl, hb⟩; have B1 := Lib.hid hb; clear hb))
    all_goals
      go_meet
      case rel =>
        refine ⟨_, rfl, fun h => ?_, B1.out⟩
        first
          | exact absurd h (by decide)
          | (have h := of_decide_eq_false h; omega)
  case rest =>
    obtain ⟨B, rfl, hB, hb⟩ := hcut
    clear d0 d1 d2
    have B1 := Lib.hid hb; clear hb
    obtain ⟨d0, d1, d2⟩ := HW.out.cells B1.out
    cases B with
    | true =>
      clear hB
      go_wp2
      go_ret
      exact ⟨rfl, HW.out.below B1.out⟩
    | false =>
      obtain ⟨hf1, hf2, hf3⟩ := hB rfl
      clear hB
      go_upto_region 3 with (fail)
      go_cut [33] (fun v wx => ∃ B : Bool, v = .bool B ∧ (B = false → (n1 ≤ 12 ∧ n2 ≤ 12) ∧ nt ≤ 6) ∧ Below W.heap.size W wx)
      case first =>
        go_wp2_with (go_at_call 9; ((with_reducible refine (isDisguise_any _ _ _ _ _ _ _ _).mono ?_); rintro e w1 ⟨rfl, hb⟩; have B2 := Lib.hid (B1.out.trans (hb.mono B1.out.size)); clear hb))
        all_goals
          go_meet
          case rel =>
            refine ⟨_, rfl, fun h => ?_, B2.out⟩
            first
              | exact absurd h (by decide)
              | (have h := of_decide_eq_false h; omega)
      case rest =>
        obtain ⟨B, rfl, hB, hb⟩ := hcut
        clear d0 d1 d2
        have B2 := Lib.hid hb; clear hb
        cases B with
        | true =>
          clear hB
          go_wp2_with fail
          with_reducible refine (awake_any _).mono ?_
          rintro e w3 ⟨rfl, hb⟩
          have B3 := Lib.hid (B2.out.trans (hb.mono B2.out.size)); clear hb
          go_wp2
          go_ret
          exact ⟨rfl, HW.out.below B3.out⟩
        | false =>
          obtain ⟨⟨hd1, hd2⟩, hnt⟩ := hB rfl
          clear hB
          obtain ⟨d0, d1, d2⟩ := HW.out.cells B2.out
          have HA2 := Lib.hid (HH.out.below (HW.out.below B2.out))
          go_wp2_with fail
          with_reducible refine (disguise_any _ HA2.out.word _ _ _ _ _ _ _ _ _ _ hd1 hd2 HA2.out.caps HA2.out.igns HA2.out.small).mono ?_
          rintro e w3 ⟨r1, r2, rfl, hr2, hr1, hp, _, hb⟩
          have B3 := Lib.hid (B2.out.trans (hb.mono B2.out.size)); clear hb hr2 hp d0 d1 d2
          have e7 : (lt : Int) % 7 = ((lt % 7 : Nat) : Int) := by omega
          have hn6 : lt % 7 ≤ 6 := by omega
          generalize lt % 7 = n at e7 hn6
          have hst := shorted_start n hn6
          have hsz0 : ((⟨#[103, 105, 55, 101, 98, 97]⟩ : ByteArray).extract 0 n).size ≤ 6 := extract_le _ _ _ _ (by decide)
          have hl0 : ¬ 9223372036854775807 < ((⟨#[103, 105, 55, 101, 98, 97]⟩ : ByteArray).extract 0 n).size + 1 := by omega
          have g6 : (n : Int) ≤ 6 := by omega
          have HST := Lib.hid hst; clear hst hsz0
          go_wp2_with fail
          clear e7 hl0
          have h70 : Hid (((⟨#[103, 105, 55, 101, 98, 97]⟩ : ByteArray).extract 0 n ++ (⟨#[126]⟩ : ByteArray)).size + (7 - n) = 8) := Lib.hid HST.out.size
          generalize (⟨#[103, 105, 55, 101, 98, 97]⟩ : ByteArray).extract 0 n ++ (⟨#[126]⟩ : ByteArray) = o0 at HST h70
          go_loopw [12, 13] (fun o i wr => ∃ (k : Nat) (ob : ByteArray), k ≤ 7 - n ∧ i = .int .i64 k ∧ o = .string ob ∧ Shorted n k ob ∧ Below W.heap.size W wr) (fun _ i _ => (intOf i).toNat)
          case atStart => exact ⟨7 - n, o0, Nat.le_refl _, congrArg (Value.int .i64) (by omega), rfl, HST.out, B3.out⟩
          case round =>
            obtain ⟨k, ob, hk, rfl, rfl, hsh, hbw⟩ := hrel
            have hos : ob.size ≤ 8 := by have := hsh.size; omega
            have HSH := Lib.hid hsh; clear hsh
            have HBW := Lib.hid hbw; clear hbw
            by_cases hk0 : 0 < k
            · have hk0' : (0 : Int) < k := by omega
              have m1 : ((nm : Int) + k) % 9 ≤ 8 := by omega
              have m2 : 0 ≤ ((nm : Int) + k) % 9 := by omega
              have hconv := fun x : Int => conv1i x
              have hgrow : Hid (∀ x : Int, Below W.heap.size W (wr.alloc (.cells #[.int .u8 x] 5))) := Lib.hid (fun x => HBW.out.alloc (HBW.out.size) _)
              have hlen : ∀ x : Int, ¬ 9223372036854775807 < ob.size + (strOfNums [x]).size := fun x => by rw [strOfNums_size]; simp; omega
              go_wp2
              go_roundw
              case rel =>
                refine ⟨k - 1, _, by omega, congrArg (Value.int .i64) (by omega), rfl, ?_, hgrow.out _⟩
                have hd := HSH.out
                rw [show k = k - 1 + 1 by omega] at hd
                have hns : n < ob.size := by have := HSH.out.size; omega
                refine hd.digit hns (d := (48 + (((nm : Int) + k) % 9 + 1)).toNat) (by omega) _ ?_
                have := nb_strOfNums [(48 + (((nm : Int) + k) % 9 + 1)).toNat] (by intro c hc; rw [List.mem_singleton] at hc; omega)
                simpa [show ((((48 + (((nm : Int) + k) % 9 + 1)).toNat : Nat)) : Int) = 48 + (((nm : Int) + k) % 9 + 1) by omega] using this
              case measure => simp [intOf]; omega
            · have hk0' : ¬ (0 : Int) < k := by omega
              have hsh0 : Hid (Shorted n 0 ob) := Lib.hid (by have := HSH.out; rwa [show k = 0 by omega] at this)
              clear HSH
              have HR3 := Lib.hid (HR.out.below (HW.out.below HBW.out))
              go_upto_region 15 with (fail)
              go_wp2_with fail
              go_loop [15, 67] (fun o i => ∃ (j : Nat) (bh : ByteArray), j ≤ nt ∧ i = .int .i64 j ∧ o = .string bh ∧ bh.size = j ∧ Behind bh) (fun _ i => nt - (intOf i).toNat)
              case atStart => exact ⟨0, ⟨#[]⟩, Nat.zero_le _, rfl, rfl, rfl, fun c hc => absurd hc (by intro h; cases h)⟩
              case round =>
                obtain ⟨j, bh, hj, rfl, rfl, hbs, hbe⟩ := hrel
                have HBE := Lib.hid hbe; clear hbe
                have HBS := Lib.hid hbs; clear hbs
                by_cases hlt2 : j < nt
                · obtain ⟨b1, off1, hAt, hb1, hcell⟩ := HR3.out j hlt2
                  obtain rfl := hAt
                  have hcell' : wr.cell? ⟨b1, off1 + j, none⟩ = some (.bool (ft j)) := hcell
                  clear hcell
                  generalize ft j = bt at hcell'
                  have hl1 : ¬ 9223372036854775807 < bh.size + 1 := by have := HBS.out; omega
                  cases bt
                  · go_wp2
                    go_round
                    case rel => exact ⟨j + 1, _, by omega, by go_num, rfl, by rw [ByteArray.size_append, HBS.out]; rfl, HBE.out.add (.inr rfl)⟩
                    case measure => simp [intOf]; omega
                  · go_wp2
                    go_round
                    case rel => exact ⟨j + 1, _, by omega, by go_num, rfl, by rw [ByteArray.size_append, HBS.out]; rfl, HBE.out.add (.inl rfl)⟩
                    case measure => simp [intOf]; omega
                · have hb6 : bh.size ≤ 6 := by have := HBS.out; omega
                  have hl2 : ¬ 9223372036854775807 < r1.size + bh.size := by omega
                  have hl3 : ¬ 9223372036854775807 < ob.size + bh.size := by omega
                  have hz2 : (r1 ++ bh).size ≤ 140 := by rw [ByteArray.size_append]; omega
                  have hz3 : (ob ++ bh).size ≤ 140 := by rw [ByteArray.size_append]; omega
                  have hmod : Hid (modules (ob ++ bh)) := Lib.hid (hsh0.out.modules hn6 HBE.out)
                  go_wp2_with fail
                  have HF1 : Hid ((r1 ++ bh).size ≤ 70368744177664) := Lib.hid (by omega)
                  have HF2 : Hid ((r1 ++ bh).size ≤ maxLen) := Lib.hid (by unfold maxLen; omega)
                  have HS1 : Hid ((ob ++ bh).size ≤ 70368744177664) := Lib.hid (by omega)
                  have HS2 : Hid ((ob ++ bh).size ≤ maxLen) := Lib.hid (by unfold maxLen; omega)
                  clear hz2 hz3 hb6
                  have i4 := idx4
                  with_reducible refine (dotGit_any _ _ HF1.out).mono ?_
                  rintro e w4 ⟨b4, b5, rfl, hm4, hb⟩
                  have B4 := Lib.hid (HBW.out.trans (hb.mono HBW.out.size)); clear hb
                  have HM4 := Lib.hid hm4; clear hm4
                  generalize isGit _ = y0; generalize hfsDot _ _ = y1; generalize ntfsGit _ = y2; generalize hfsDot _ _ = y3
                  go_wp2_with fail
                  with_reducible refine (specModules_any _ _ HF2.out).mono ?_
                  rintro e w5 ⟨b6, rfl, hm6, hb⟩
                  have B5 := Lib.hid (B4.out.trans (hb.mono B4.out.size)); clear hb
                  obtain rfl : b4 = b6 := by rw [Bool.eq_iff_iff, HM4.out, hm6]
                  clear hm6
                  have hxx : (b4 == b4) = true := by simp
                  go_wp2_with fail
                  with_reducible refine (specModules_any _ _ HS2.out).mono ?_
                  rintro e w6 ⟨b7, rfl, hm7, hb⟩
                  have B6 := Lib.hid (B5.out.trans (hb.mono B5.out.size)); clear hb
                  obtain rfl : b7 = true := hm7.mpr hmod.out
                  clear hm7
                  go_wp2_with fail
                  with_reducible refine (dotGit_any _ _ HS1.out).mono ?_
                  rintro e w7 ⟨b8, b9, rfl, hm8, hb⟩
                  have B7 := Lib.hid (B6.out.trans (hb.mono B6.out.size)); clear hb
                  obtain rfl : b8 = true := hm8.mpr hmod.out
                  clear hm8
                  generalize isGit _ = z0; generalize hfsDot _ _ = z1; generalize ntfsGit _ = z2; generalize hfsDot _ _ = z3
                  go_wp2_with fail
                  with_reducible refine (awake_any _).mono ?_
                  rintro e w8 ⟨rfl, hb⟩
                  have B8 := Lib.hid (B7.out.trans (hb.mono B7.out.size)); clear hb
                  go_wp2
                  go_ret
                  exact ⟨rfl, HW.out.below B8.out⟩
end Go.Proofs.Ytdmkjfkdjhmpjaa
