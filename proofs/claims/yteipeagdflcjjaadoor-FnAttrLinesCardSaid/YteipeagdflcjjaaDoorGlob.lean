/- isGlob, isGlobPath, GlobText, zzFits28. -/
import Derived.Test.YteipeagdflcjjaaDoorPart
import Derived.Test.YteipeagdflcjjaaDoorStrs
import Derived.Test.YteipeagdflcjjaaDoorMatchP
namespace Go.Proofs.YteipeagdflcjjaaDoor
open Go.RowKit
set_option linter.unusedSimpArgs false
set_option linter.unusedVariables false

/-- The world behind the box of a pattern. -/
structure PBox (w W : World) (A : Option Addr) (n c : Nat) (b1 b2 b3 : Bool) : Prop where
  bel : Below w.heap.size w W
  size : W.heap.size = w.heap.size + 1
  c0 : W.cell? ⟨w.heap.size, 0, none⟩ = some (.slice A n c)
  c1 : W.cell? ⟨w.heap.size, 1, none⟩ = some (.bool b1)
  c2 : W.cell? ⟨w.heap.size, 2, none⟩ = some (.bool b2)
  c3 : W.cell? ⟨w.heap.size, 3, none⟩ = some (.bool b3)
theorem PBox.new (w : World) (A : Option Addr) (n c : Nat) (b1 b2 b3 : Bool) : PBox w (w.alloc (.cells #[.slice A n c, .bool b1, .bool b2, .bool b3] 36)) A n c b1 b2 b3 :=
  ⟨(Below.refl _ _).alloc (Nat.le_refl _) _, heap_new_size _ _, World.cell?_alloc_mark w _ 36 (0, 0) 0, World.cell?_alloc_mark w _ 36 (0, 0) 1, World.cell?_alloc_mark w _ 36 (0, 0) 2, World.cell?_alloc_mark w _ 36 (0, 0) 3⟩
theorem PBox.cells {w W w' : World} {A : Option Addr} {n c : Nat} {b1 b2 b3 : Bool} (h : PBox w W A n c b1 b2 b3) (hb : Below W.heap.size W w') :
    w'.cell? ⟨w.heap.size, 0, none⟩ = some (.slice A n c) ∧ w'.cell? ⟨w.heap.size, 1, none⟩ = some (.bool b1) ∧ w'.cell? ⟨w.heap.size, 2, none⟩ = some (.bool b2) ∧ w'.cell? ⟨w.heap.size, 3, none⟩ = some (.bool b3) :=
  have hl : w.heap.size < W.heap.size := by rw [h.size]; omega
  ⟨(hb.cell (p := ⟨w.heap.size, 0, none⟩) hl).trans h.c0, (hb.cell (p := ⟨w.heap.size, 1, none⟩) hl).trans h.c1, (hb.cell (p := ⟨w.heap.size, 2, none⟩) hl).trans h.c2, (hb.cell (p := ⟨w.heap.size, 3, none⟩) hl).trans h.c3⟩
theorem PBox.below {w W w' : World} {A : Option Addr} {n c : Nat} {b1 b2 b3 : Bool} (h : PBox w W A n c b1 b2 b3) (hb : Below W.heap.size W w') : Below w.heap.size w w' :=
  h.bel.trans (hb.mono (by rw [h.size]; omega))

def Fits28Post (n : Nat) (f : Nat → ByteArray) (w : World) (e : Ending) (w' : World) : Prop :=
  ∃ r, e = .returned (.bool r) ∧ (r = true → n ≤ 2147483647 ∧ ∀ i, i < n → (f i).size ≤ 2147483647) ∧ Below w.heap.size w w'

set_option maxHeartbeats 400000 in
theorem fits28_any (A : Option Addr) (n c : Nat) (f : Nat → ByteArray) (b1 b2 b3 : Bool) (w : World) (hm : n ≤ maxLen) (h : Strs w A n f) :
    Calls Tryd.prog 19 #[.agg #[.slice A n c, .bool b1, .bool b2, .bool b3]] w (Fits28Post n f w) := by
  have H := Lib.hid h; clear h
  go_enter Tryd.func19, Tryd.ntmps19
  go_upto_region 1 with (fail)
  generalize hW : w.alloc _ = W
  have hW2 : PBox w W A n c b1 b2 b3 := by subst hW; exact PBox.new w A n c b1 b2 b3
  clear hW
  have HW := Lib.hid hW2
  obtain ⟨d0, d1, d2, d3⟩ := hW2.cells (Below.refl _ _)
  clear hW2
  have H1 := Lib.hid (H.out.below HW.out.bel)
  go_wp2_with fail
  with_reducible refine (fits3_any _ _ _ f _ hm H1.out).mono ?_
  rintro e w' ⟨r, rfl, hr, rfl⟩
  have HR := Lib.hid hr; clear hr
  cases r <;> go_wp2 <;> go_ret
  · exact ⟨false, rfl, fun h => (by cases h), HW.out.bel⟩
  · exact ⟨true, rfl, fun _ => (by first | exact HR.out rfl | exact HR.out trivial), HW.out.bel⟩

def PartOk (n : Nat) (s : ByteArray) : Prop := GoodPart s ∨ (nb s = [42, 42] ∧ n ≠ 1)
def GlobPost (n : Nat) (f : Nat → ByteArray) (w : World) (e : Ending) (w' : World) : Prop :=
  ∃ B : Bool, e = .returned (.bool B) ∧ (B = true → 1 ≤ n ∧ n ≤ 4 ∧ ∀ i, i < n → PartOk n (f i)) ∧ Below w.heap.size w w'

set_option maxRecDepth 100000 in
set_option maxHeartbeats 4000000 in
theorem isGlob_any (A : Option Addr) (n c : Nat) (f : Nat → ByteArray) (b1 b2 b3 : Bool) (w : World) (hn : n ≤ 2147483647) (h : Strs w A n f) (hsz : ∀ i, i < n → (f i).size ≤ 2147483647) :
    Calls Tryd.prog 21 #[.agg #[.slice A n c, .bool b1, .bool b2, .bool b3]] w (GlobPost n f w) := by
  have H := Lib.hid h; clear h
  have HSZ := Lib.hid hsz; clear hsz
  go_enter Tryd.func21, Tryd.ntmps21
  go_upto_region 1 with (fail)
  generalize hW : w.alloc _ = W
  have hW2 : PBox w W A n c b1 b2 b3 := by subst hW; exact PBox.new w A n c b1 b2 b3
  clear hW
  have HW := Lib.hid hW2
  obtain ⟨d0, _, _, _⟩ := hW2.cells (Below.refl _ _)
  clear hW2
  go_wp2
  clear d0
  go_loopw [8] (fun i wr => ∃ k : Nat, k ≤ n ∧ i = .int .i64 k ∧ (∀ j, j < k → PartOk n (f j)) ∧ Below W.heap.size W wr) (fun i _ => n - (intOf i).toNat)
  case atStart => exact ⟨0, Nat.zero_le _, rfl, fun j h => by omega, Below.refl _ _⟩
  case round =>
    obtain ⟨k, hk, rfl, hall, hbel⟩ := hrel
    have HA := Lib.hid hall; clear hall
    have HB := Lib.hid hbel; clear hbel
    have H1 := Lib.hid (H.out.below (HW.out.below HB.out))
    by_cases hlt : k < n
    · obtain ⟨b, off, hAe, _, hcell⟩ := H1.out.at k hlt
      have HPOK : Hid (PartOk n (f k) → ∀ j, j < k + 1 → PartOk n (f j)) := Lib.hid fun h j hj => by
        by_cases e : j = k
        · subst e; exact h
        · exact HA.out j (by omega)
      have hfs := HSZ.out k hlt
      generalize f k = s at hcell HPOK hfs
      subst hAe
      go_wp2_with fail
      with_reducible refine (isGlobPart_any s _ hfs).mono ?_
      rintro e w' ⟨B, rfl, hB, hb'⟩
      have HB2 := Lib.hid (HB.out.trans (hb'.mono HB.out.size)); clear hb'
      have HBB := Lib.hid hB; clear hB
      clear hcell
      obtain ⟨d0, _, _, _⟩ := HW.out.cells HB2.out
      have H2 := Lib.hid (H.out.below (HW.out.below HB2.out))
      cases B with
      | false =>
        go_wp2
        go_ret
        exact ⟨false, rfl, fun h => (by cases h), HW.out.below HB2.out⟩
      | true =>
        have hq := beq_str s [42, 42]
        have hq1 := beq_str s [46]
        have hq2 := beq_str s [46, 46]
        have hnn : ∀ l : List UInt8, ∃ b, (nb s == l.map UInt8.toNat) = b := fun l => ⟨_, rfl⟩
        obtain ⟨Q1, hQ1⟩ := hnn [46]
        obtain ⟨Q2, hQ2⟩ := hnn [46, 46]
        rw [hQ1] at hq1
        rw [hQ2] at hq2
        clear hQ1 hQ2 hnn
        cases hQ : (nb s == ([42, 42] : List UInt8).map UInt8.toNat) with
        | false =>
          rw [hQ] at hq
          have HN : Hid (PartOk n s) := Lib.hid (.inl ((HBB.out rfl).resolve_left (fun e => by rw [e] at hQ; cases hQ)))
          clear hQ
          cases Q1 with
          | true =>
            go_wp2
            go_ret
            exact ⟨false, rfl, fun h => (by cases h), HW.out.below HB2.out⟩
          | false =>
            cases Q2 with
            | true =>
              go_wp2
              go_ret
              exact ⟨false, rfl, fun h => (by cases h), HW.out.below HB2.out⟩
            | false =>
              go_wp2
              go_roundw
              case rel => exact ⟨k + 1, by omega, by go_num, HPOK.out HN.out, HB2.out⟩
              case measure => simp [intOf] <;> omega
        | true =>
          rw [hQ] at hq
          have HS2 := Lib.hid (beq_iff_eq.mp hQ)
          clear hQ
          by_cases hn1 : n = 1
          · have q : ((n : Int) == 1) = true := beq_iff_eq.mpr (by omega)
            go_wp2
            try any_goals (exfalso; omega)
            go_ret
            exact ⟨false, rfl, fun h => (by cases h), HW.out.below HB2.out⟩
          · have q : ((n : Int) == 1) = false := beq_eq_false_iff_ne.mpr (by omega)
            have HN : Hid (PartOk n s) := Lib.hid (.inr ⟨HS2.out, hn1⟩)
            by_cases hk0 : k = 0
            · subst hk0
              cases Q1 <;> cases Q2
              all_goals (go_wp2; first | go_ret | go_roundw)
              all_goals first
                | exact ⟨false, rfl, fun h => (by cases h), HW.out.below HB2.out⟩
                | exact ⟨1, by omega, by first | rfl | go_num, HPOK.out HN.out, HB2.out⟩
                | (simp [intOf] <;> omega)
            · obtain ⟨j, rfl⟩ : ∃ j, k = j + 1 := ⟨k - 1, by omega⟩
              have hpos : (0 : Int) < (j : Int) + 1 := by omega
              obtain ⟨b', off', hAe, _, hcell2⟩ := H2.out.at j (by omega)
              obtain ⟨rfl, rfl⟩ : b = b' ∧ off = off' := by cases hAe; exact ⟨rfl, rfl⟩
              clear hAe
              have hqj := beq_str (f j) [42, 42]
              generalize f j = sj at hcell2 hqj
              generalize (nb sj == ([42, 42] : List UInt8).map UInt8.toNat) = Qj at hqj
              cases Qj
              · cases Q1 <;> cases Q2
                all_goals (go_wp2; first | go_ret | go_roundw)
                all_goals first
                  | exact ⟨false, rfl, fun h => (by cases h), HW.out.below HB2.out⟩
                  | exact ⟨j + 2, by omega, by go_num, HPOK.out HN.out, HB2.out⟩
                  | (simp [intOf] <;> omega)
              · go_wp2
                go_ret
                exact ⟨false, rfl, fun h => (by cases h), HW.out.below HB2.out⟩
    · obtain rfl : k = n := by omega
      obtain ⟨d0, _, _, _⟩ := HW.out.cells HB.out
      by_cases h1 : (1 : Int) ≤ k
      · by_cases h4 : (k : Int) ≤ 4
        · go_wp2
          try any_goals (exfalso; omega)
          go_ret
          exact ⟨true, rfl, fun _ => ⟨by omega, by omega, HA.out⟩, HW.out.below HB.out⟩
        · have h4' : (4 : Int) < k := by omega
          go_wp2
          try any_goals (exfalso; omega)
          go_ret
          exact ⟨false, rfl, fun h => (by cases h), HW.out.below HB.out⟩
      · have h1' : (k : Int) < 1 := by omega
        go_wp2
        try any_goals (exfalso; omega)
        go_ret
        exact ⟨false, rfl, fun h => (by cases h), HW.out.below HB.out⟩

/-! ## isGlobPath -/
structure NameOk (s : ByteArray) : Prop where
  nm : Nm s
  pos : 1 ≤ s.size
  six : s.size ≤ 6
def PathPost (n : Nat) (f : Nat → ByteArray) (w : World) (e : Ending) (w' : World) : Prop :=
  ∃ B : Bool, e = .returned (.bool B) ∧ (B = true → 1 ≤ n ∧ n ≤ 5 ∧ ∀ i, i < n → NameOk (f i)) ∧ w = w'
theorem nm_of {s : ByteArray} (h : ∀ j, j < s.size → bx s j < 128 ∧ bx s j ≠ 47) (hs : s.size ≤ 1000) : Nm s := by
  refine ⟨fun c hc => ?_, hs⟩
  obtain ⟨i, hi, e⟩ := List.mem_iff_getElem.mp hc
  rw [bx_getElem s i hi] at e
  rw [← e]
  exact h i (by rw [nb_length] at hi; exact hi)

set_option maxRecDepth 100000 in
set_option maxHeartbeats 4000000 in
theorem isGlobPath_any (A : Option Addr) (n c : Nat) (f : Nat → ByteArray) (w : World) (hn : n ≤ 2147483647) (h : Strs w A n f) (hsz : ∀ i, i < n → (f i).size ≤ 2147483647) :
    Calls Tryd.prog 12 #[.slice A n c, .int .i64 1] w (PathPost n f w) := by
  have H := Lib.hid h; clear h
  have HSZ := Lib.hid hsz; clear hsz
  go_enter Tryd.func12, Tryd.ntmps12
  go_wp2
  go_loop [10] (fun i => ∃ k : Nat, k ≤ n ∧ i = .int .i64 k ∧ ∀ j, j < k → NameOk (f j)) (fun i => n - (intOf i).toNat)
  case atStart => exact ⟨0, Nat.zero_le _, rfl, fun j h => by omega⟩
  case round =>
    obtain ⟨k, hk, rfl, hall⟩ := hrel
    have HA := Lib.hid hall; clear hall
    by_cases hlt : k < n
    · obtain ⟨b, off, hAe, _, hcell⟩ := H.out.at k hlt
      have HNOK : Hid (NameOk (f k) → ∀ j, j < k + 1 → NameOk (f j)) := Lib.hid fun h j hj => by
        by_cases e : j = k
        · subst e; exact h
        · exact HA.out j (by omega)
      have hfs := HSZ.out k hlt
      generalize f k = s at hcell HNOK hfs
      subst hAe
      go_wp2
      clear hcell
      go_loop [16] (fun i => ∃ m : Nat, m ≤ s.size ∧ i = .int .i64 m ∧ ∀ j, j < m → bx s j < 128 ∧ bx s j ≠ 47) (fun i => s.size - (intOf i).toNat)
      case atStart => exact ⟨0, Nat.zero_le _, rfl, fun j h => by omega⟩
      case round =>
        obtain ⟨m, hm, rfl, hby⟩ := hrel
        have HBY := Lib.hid hby; clear hby
        by_cases hml : m < s.size
        · have hb := bx_get s m hml
          generalize hcc : bx s m = x at hb
          have HMORE : Hid (x < 128 ∧ x ≠ 47 → ∀ j, j < m + 1 → bx s j < 128 ∧ bx s j ≠ 47) := Lib.hid fun h j hj => by
            by_cases e : j = m
            · subst e; rw [hcc]; exact h
            · exact HBY.out j (by omega)
          clear hcc
          by_cases h97 : (x : Int) < 97
          · by_cases h46 : x = 46
            · have q : ((x : Int) != 46) = false := by simp [h46]
              have HN := Lib.hid (HMORE.out (by omega))
              go_wp2
              try any_goals (exfalso; omega)
              go_round
              case rel => exact ⟨m + 1, by omega, by go_num, HN.out⟩
              case measure => simp [intOf] <;> omega
            · have q : ((x : Int) != 46) = true := by simp; omega
              by_cases h42 : x = 42
              · have q2 : ((x : Int) != 42) = false := by simp [h42]
                have HN := Lib.hid (HMORE.out (by omega))
                go_wp2
                try any_goals (exfalso; omega)
                go_round
                case rel => exact ⟨m + 1, by omega, by go_num, HN.out⟩
                case measure => simp [intOf] <;> omega
              · have q2 : ((x : Int) != 42) = true := by simp; omega
                by_cases h63 : x = 63
                · have q3 : ((x : Int) != 63) = false := by simp [h63]
                  have HN := Lib.hid (HMORE.out (by omega))
                  go_wp2
                  try any_goals (exfalso; omega)
                  go_round
                  case rel => exact ⟨m + 1, by omega, by go_num, HN.out⟩
                  case measure => simp [intOf] <;> omega
                · have q3 : ((x : Int) != 63) = true := by simp; omega
                  go_wp2
                  try any_goals (exfalso; omega)
                  go_ret
                  exact ⟨false, rfl, fun h => (by cases h), rfl⟩
          · have h97' : (97 : Int) ≤ x := by omega
            by_cases h99 : (x : Int) ≤ 99
            · have HN := Lib.hid (HMORE.out (by omega))
              go_wp2
              try any_goals (exfalso; omega)
              go_round
              case rel => exact ⟨m + 1, by omega, by go_num, HN.out⟩
              case measure => simp [intOf] <;> omega
            · have h99' : (99 : Int) < x := by omega
              have q : ((x : Int) != 46) = true := by simp; omega
              have q2 : ((x : Int) != 42) = true := by simp; omega
              have q3 : ((x : Int) != 63) = true := by simp; omega
              go_wp2
              try any_goals (exfalso; omega)
              go_ret
              exact ⟨false, rfl, fun h => (by cases h), rfl⟩
        · obtain rfl : m = s.size := by omega
          by_cases h1 : (s.size : Int) < 1
          · go_wp2
            try any_goals (exfalso; omega)
            go_ret
            exact ⟨false, rfl, fun h => (by cases h), rfl⟩
          · have h1' : (1 : Int) ≤ s.size := by omega
            by_cases h6 : (6 : Int) < s.size
            · go_wp2
              try any_goals (exfalso; omega)
              go_ret
              exact ⟨false, rfl, fun h => (by cases h), rfl⟩
            · have h6' : (s.size : Int) ≤ 6 := by omega
              have HN := Lib.hid (HNOK.out ⟨nm_of HBY.out (by omega), by omega, by omega⟩)
              have hq1 := beq_str s [46]
              have hq2 := beq_str s [46, 46]
              generalize (nb s == ([46] : List UInt8).map UInt8.toNat) = Q1 at hq1
              generalize (nb s == ([46, 46] : List UInt8).map UInt8.toNat) = Q2 at hq2
              cases Q1
              · cases Q2
                · go_wp2
                  try any_goals (exfalso; omega)
                  go_round
                  case rel => exact ⟨k + 1, by omega, by go_num, HN.out⟩
                  case measure => simp [intOf] <;> omega
                · go_wp2
                  try any_goals (exfalso; omega)
                  go_ret
                  exact ⟨false, rfl, fun h => (by cases h), rfl⟩
              · go_wp2
                try any_goals (exfalso; omega)
                go_ret
                exact ⟨false, rfl, fun h => (by cases h), rfl⟩
    · obtain rfl : k = n := by omega
      by_cases h1 : (1 : Int) ≤ k
      · by_cases h4 : (k : Int) ≤ 5
        · go_wp2
          try any_goals (exfalso; omega)
          go_ret
          exact ⟨true, rfl, fun _ => ⟨by omega, by omega, HA.out⟩, rfl⟩
        · have h4' : (5 : Int) < k := by omega
          go_wp2
          try any_goals (exfalso; omega)
          go_ret
          exact ⟨false, rfl, fun h => (by cases h), rfl⟩
      · have h1' : (k : Int) < 1 := by omega
        go_wp2
        try any_goals (exfalso; omega)
        go_ret
        exact ⟨false, rfl, fun h => (by cases h), rfl⟩

/-! ## GlobText -/
def gt (f : Nat → ByteArray) (ahead : Bool) : Nat → List Nat
  | 0 => if ahead = true then [47] else []
  | k + 1 => gt f ahead k ++ (if k = 0 then [] else [47]) ++ nb (f k)
theorem good_bytes (t : Tok) (h : t.good) : ∀ c ∈ t.text, c ≠ 47 ∧ c ≠ 32 ∧ c ≠ 33 := by
  intro c hc
  cases t with
  | star => simp [Tok.text] at hc; omega
  | any => simp [Tok.text] at hc; omega
  | lit x => simp [Tok.text] at hc; subst hc; unfold Tok.good letter at h; dsimp only at h; omega
  | esc x => simp [Tok.text] at hc; unfold Tok.good letter at h; dsimp only at h; omega
  | set neg items =>
    simp [Tok.text] at hc
    rcases hc with h1 | h1 | h1 | h1
    · omega
    · unfold negText at h1
      split at h1
      · rw [List.mem_singleton] at h1; omega
      · cases h1
    · rcases items_plain items h.2 c h1 with h2 | h2
      · unfold letter at h2; omega
      · omega
    · omega
theorem PartOk.bytes {n : Nat} {s : ByteArray} (h : PartOk n s) : (∀ c ∈ nb s, c ≠ 47 ∧ c ≠ 32 ∧ c ≠ 33) ∧ nb s ≠ [] ∧ s.size ≤ 10 := by
  rcases h with ⟨T, hT, hG, h1, h2⟩ | ⟨h, _⟩
  · refine ⟨fun c hc => ?_, fun e => ?_, h2⟩
    · rw [hT] at hc
      obtain ⟨t, ht, hc⟩ := List.mem_flatMap.mp hc
      exact good_bytes t (hG t ht) c hc
    · have := nb_length s; rw [e] at this; simp at this; omega
  · refine ⟨fun c hc => ?_, by rw [h]; simp, by rw [← nb_length, h]; simp⟩
    rw [h] at hc; simp at hc; omega

structure PatText (t : ByteArray) (behind : Bool) (PL : List ByteArray) : Prop where
  body : ∃ body, nb t = body ++ (if behind = true then [47] else []) ∧ splitN body = PL.map nb ∧ body ≠ [] ∧ (∀ c ∈ body, c ≠ 32 ∧ c ≠ 33) ∧ body.getLast? ≠ some 47
  small : t.size ≤ 100
  parts : ∀ p ∈ PL, nb p = [] ∨ nb p = [42, 42] ∨ GoodPart p
  one : PL.length = 1 → ∀ p ∈ PL, GoodPart p
  len : 1 ≤ PL.length ∧ PL.length ≤ 10

theorem gt_split (f : Nat → ByteArray) (ahead : Bool) (n : Nat) : ∀ k, (∀ j, j < k + 1 → PartOk n (f j)) → splitN (gt f ahead (k + 1)) = (if ahead = true then [[]] else []) ++ (List.range (k + 1)).map (fun i => nb (f i)) ∧ (∀ c ∈ gt f ahead (k + 1), c ≠ 32 ∧ c ≠ 33) ∧ (gt f ahead (k + 1)).getLast? ≠ some 47 ∧ gt f ahead (k + 1) ≠ [] := by
  have hlast : ∀ (l : List Nat) (s : ByteArray), PartOk n s → (l ++ nb s).getLast? ≠ some 47 := by
    intro l s hs e
    rw [List.getLast?_append] at e
    cases hx : (nb s).getLast? with
    | none => exact hs.bytes.2.1 (List.getLast?_eq_none_iff.mp hx)
    | some x =>
      rw [hx] at e
      have e2 : x = 47 := Option.some.inj e
      subst e2
      exact (hs.bytes.1 47 (List.mem_of_getLast? hx)).1 rfl
  intro k
  induction k with
  | zero =>
    intro h
    have h0 := h 0 (by omega)
    refine ⟨?_, ?_, hlast _ _ h0, fun e => h0.bytes.2.1 (List.append_eq_nil_iff.mp e).2⟩
    · show splitN ((if ahead = true then [47] else []) ++ [] ++ nb (f 0)) = _
      cases ahead with
      | true =>
        have := splitN_join [] (nb (f 0)) (fun c hc => (h0.bytes.1 c hc).1)
        simpa [splitN, runS] using this
      | false => simpa using splitN_one (nb (f 0)) (fun c hc => (h0.bytes.1 c hc).1)
    · intro c hc
      have hc : c ∈ (if ahead = true then [47] else []) ++ [] ++ nb (f 0) := hc
      rw [List.append_nil] at hc
      rcases List.mem_append.mp hc with hc | hc
      · split at hc
        · rw [List.mem_singleton] at hc; omega
        · cases hc
      · exact (h0.bytes.1 c hc).2
  | succ k ih =>
    intro h
    obtain ⟨i1, i2, i3, i4⟩ := ih (fun j hj => h j (by omega))
    have h0 := h (k + 1) (by omega)
    have e : gt f ahead (k + 1 + 1) = gt f ahead (k + 1) ++ [47] ++ nb (f (k + 1)) := rfl
    refine ⟨?_, ?_, by rw [e]; exact hlast _ _ h0, fun e2 => h0.bytes.2.1 (List.append_eq_nil_iff.mp (e ▸ e2)).2⟩
    · rw [e, splitN_join _ _ (fun c hc => (h0.bytes.1 c hc).1), i1, List.range_succ (n := k + 1), List.map_append, List.append_assoc]
      rfl
    · intro c hc
      rw [e] at hc
      rcases List.mem_append.mp hc with hc | hc
      · rcases List.mem_append.mp hc with hc | hc
        · exact i2 c hc
        · rw [List.mem_singleton] at hc; omega
      · exact (h0.bytes.1 c hc).2

def patList (f : Nat → ByteArray) (n : Nat) (ahead : Bool) : List ByteArray := (if ahead = true then [⟨#[]⟩] else []) ++ (List.range n).map f
theorem pat_text {f : Nat → ByteArray} {n : Nat} {ahead behind : Bool} {t : ByteArray} (h1 : 1 ≤ n) (h4 : n ≤ 4) (hp : ∀ i, i < n → PartOk n (f i)) (ht : nb t = gt f ahead n ++ (if behind = true then [47] else [])) (hs : t.size ≤ 100) : PatText t behind (patList f n ahead) := by
  obtain ⟨k, rfl⟩ : ∃ k, n = k + 1 := ⟨n - 1, by omega⟩
  obtain ⟨i1, i2, i3, i4⟩ := gt_split f ahead (k + 1) k hp
  have hlen : (patList f (k + 1) ahead).length = (if ahead = true then 1 else 0) + (k + 1) := by unfold patList; rw [List.length_append, List.length_map, List.length_range]; cases ahead <;> rfl
  refine ⟨⟨_, ht, ?_, i4, i2, i3⟩, hs, ?_, ?_, by rw [hlen]; split <;> omega⟩
  · rw [i1]; unfold patList; rw [List.map_append, List.map_map]; cases ahead <;> rfl
  · intro p hpm
    unfold patList at hpm
    rcases List.mem_append.mp hpm with hpm | hpm
    · split at hpm
      · rw [List.mem_singleton] at hpm; subst hpm; exact .inl rfl
      · cases hpm
    · obtain ⟨i, hi, rfl⟩ := List.mem_map.mp hpm
      rcases hp i (List.mem_range.mp hi) with h | h
      · exact .inr (.inr h)
      · exact .inr (.inl h.1)
  · intro e p hpm
    rw [hlen] at e
    have ha : ahead = false := by cases ahead with
      | true => simp at e
      | false => rfl
    subst ha
    have hk : k = 0 := by simp at e; omega
    subst hk
    have hpm : p ∈ [] ++ (List.range 1).map f := hpm
    simp at hpm
    subst hpm
    rcases hp 0 (by omega) with h | h
    · exact h
    · exact absurd rfl h.2

def TextPost (f : Nat → ByteArray) (n : Nat) (b2 b3 : Bool) (w : World) (e : Ending) (w' : World) : Prop :=
  ∃ t : ByteArray, e = .returned (.string t) ∧ nb t = gt f b2 n ++ (if b3 = true then [47] else []) ∧ t.size ≤ 100 ∧ Below w.heap.size w w'

set_option maxRecDepth 100000 in
set_option maxHeartbeats 4000000 in
theorem globText_any (A : Option Addr) (n c : Nat) (f : Nat → ByteArray) (b2 b3 : Bool) (w : World) (h4 : n ≤ 4) (h : Strs w A n f) (hp : ∀ i, i < n → PartOk n (f i)) :
    Calls Tryd.prog 24 #[.agg #[.slice A n c, .bool false, .bool b2, .bool b3]] w (TextPost f n b2 b3 w) := by
  have H := Lib.hid h; clear h
  have HP := Lib.hid hp; clear hp
  go_enter Tryd.func24, Tryd.ntmps24
  go_upto_region 1 with (fail)
  generalize hW : w.alloc _ = W
  have hW2 : PBox w W A n c false b2 b3 := by subst hW; exact PBox.new w A n c false b2 b3
  clear hW
  have HW := Lib.hid hW2
  obtain ⟨d0, d1, d2, d3⟩ := hW2.cells (Below.refl _ _)
  clear hW2
  have H1 := Lib.hid (H.out.below HW.out.bel)
  go_upto_if 9 with (fail)
  go_cut [3] (fun v wx => ∃ o : ByteArray, v = .string o ∧ nb o = gt f b2 0 ∧ o.size ≤ 1 ∧ wx = W)
  case first =>
    cases b2 with
    | true =>
      have hl : ¬ 9223372036854775807 < (⟨#[]⟩ : ByteArray).size + 1 := by decide
      go_wp2
      go_meet
      case rel => exact ⟨_, rfl, rfl, by decide, rfl⟩
    | false =>
      go_wp2
      go_meet
      case rel => exact ⟨_, rfl, rfl, by decide, rfl⟩
  case rest =>
    obtain ⟨o, rfl, ho, hos, rfl⟩ := hcut
    have HO := Lib.hid ho; clear ho
    go_wp2
    clear d0 d1 d2 d3
    go_loop [3, 15] (fun t i => ∃ (k : Nat) (o : ByteArray), k ≤ n ∧ i = .int .i64 k ∧ t = .string o ∧ nb o = gt f b2 k ∧ o.size ≤ 1 + 11 * k) (fun _ i => n - (intOf i).toNat)
    case atStart => exact ⟨0, o, Nat.zero_le _, rfl, rfl, HO.out, by omega⟩
    case round =>
      clear HO hos
      obtain ⟨k, o, hk, rfl, rfl, ho, hos⟩ := hrel
      have HO := Lib.hid ho; clear ho
      by_cases hlt : k < n
      · obtain ⟨b, off, hAe, _, hcell⟩ := H1.out.at k hlt
        have hps := (HP.out k hlt).bytes.2.2
        have HG : Hid (gt f b2 (k + 1) = gt f b2 k ++ (if k = 0 then [] else [47]) ++ nb (f k)) := Lib.hid rfl
        generalize f k = s at hcell hps HG
        subst hAe
        by_cases hk0 : k = 0
        · subst hk0
          rw [Nat.add_zero] at hcell
          have hl : ¬ 9223372036854775807 < o.size + s.size := by omega
          have HN : Hid (nb (o ++ s) = gt f b2 1) := Lib.hid (by rw [nb_append, HO.out, HG.out]; simp)
          go_wp2
          go_round
          case rel => exact ⟨1, _, by omega, by first | rfl | go_num, rfl, HN.out, by rw [ByteArray.size_append]; omega⟩
          case measure => simp [intOf] <;> omega
        · have hkp : (0 : Int) < k := by omega
          have hl1 : ¬ 9223372036854775807 < o.size + 1 := by omega
          have hs1 : (o ++ (⟨#[47]⟩ : ByteArray)).size = o.size + 1 := by rw [ByteArray.size_append]; rfl
          have hl2 : ¬ 9223372036854775807 < (o ++ (⟨#[47]⟩ : ByteArray)).size + s.size := by omega
          have HN : Hid (nb (o ++ (⟨#[47]⟩ : ByteArray) ++ s) = gt f b2 (k + 1)) := Lib.hid (by rw [nb_append, nb_append, HO.out, HG.out, if_neg hk0]; rfl)
          have HSZ : Hid ((o ++ (⟨#[47]⟩ : ByteArray) ++ s).size ≤ 1 + 11 * (k + 1)) := Lib.hid (by rw [ByteArray.size_append, hs1]; omega)
          clear hs1
          go_wp2
          go_round
          case rel => exact ⟨k + 1, _, by omega, by go_num, rfl, HN.out, HSZ.out⟩
          case measure => simp [intOf] <;> omega
      · obtain rfl : k = n := by omega
        obtain ⟨d0, d1, d2, d3⟩ := HW.out.cells (Below.refl _ _)
        cases b3 with
        | true =>
          have hl1 : ¬ 9223372036854775807 < o.size + 1 := by omega
          have HN : Hid (nb (o ++ (⟨#[47]⟩ : ByteArray)) = gt f b2 k ++ [47]) := Lib.hid (by rw [nb_append, HO.out]; rfl)
          have HSZ : Hid ((o ++ (⟨#[47]⟩ : ByteArray)).size ≤ 100) := Lib.hid (by rw [ByteArray.size_append]; show o.size + 1 ≤ 100; omega)
          go_wp2
          go_ret
          exact ⟨_, rfl, HN.out, HSZ.out, HW.out.bel⟩
        | false =>
          go_wp2
          go_ret
          exact ⟨_, rfl, by rw [HO.out]; simp, by omega, HW.out.bel⟩
end Go.Proofs.YteipeagdflcjjaaDoor
