/- FnAttrNames: the walk. -/
import Derived.Test.YteipeagdflcjjaaDoorAtT
import Derived.Test.YteipeagdflcjjaaDoorAtY
import Derived.BigQuiet
namespace Go.Proofs.YteipeagdflcjjaaDoor
open Go.RowKit
set_option linter.unusedSimpArgs false
set_option linter.unusedVariables false

/-- A sign that may not stand in a name. -/
def SignOk (g : ByteArray) : Prop := ∃ c, nb g = [c] ∧ (c = 42 ∨ c = 47 ∨ c = 58 ∨ c = 64 ∨ c = 43 ∨ c = 37)
theorem sign_size {g : ByteArray} (h : SignOk g) : g.size = 1 := by
  obtain ⟨c, h, _⟩ := h
  exact size_of h
/-- The line of a name. -/
def lineOfName (a u b : ByteArray) : ByteArray := ⟨#[97, 32]⟩ ++ a ++ u ++ b
theorem nb_lineOfName (a u b : ByteArray) : nb (lineOfName a u b) = [97] ++ ([32] ++ nb (a ++ u ++ b)) := by
  unfold lineOfName
  rw [nb_append, nb_append, nb_append, nb_append, nb_append]
  simp [nb]
theorem name_mem {a u b : ByteArray} (c : Nat) (h : c ∈ nb (a ++ u ++ b)) : c ∈ nb a ∨ c ∈ nb u ∨ c ∈ nb b := by
  rw [nb_append, nb_append] at h
  rcases List.mem_append.mp h with h | h
  · rcases List.mem_append.mp h with h | h
    · exact .inl h
    · exact .inr (.inl h)
  · exact .inr (.inr h)
structure NameLine (a u b : ByteArray) : Prop where
  size : (lineOfName a u b).size ≤ 5000 ∧ 1 ≤ (lineOfName a u b).size
  first : 33 ≤ bx (lineOfName a u b) 0 ∧ bx (lineOfName a u b) 0 ≠ 34 ∧ bx (lineOfName a u b) 0 ≠ 35
  last : 33 ≤ bx (lineOfName a u b) ((lineOfName a u b).size - 1)
  fields : fieldsN (nb (lineOfName a u b)) = ((⟨#[97]⟩ : ByteArray) :: [a ++ u ++ b]).map nb
  plain : PlainA (a ++ u ++ b)
  head : bx (a ++ u ++ b) 0 ≠ 45
theorem name_line {a u b : ByteArray} (ha : IsWord a) (hb : IsWord b) (hu : u.size = 1) (hu2 : ∀ c ∈ nb u, 33 ≤ c ∧ c < 128 ∧ c ≠ 61) : NameLine a u b := by
  have ra := word_range ha
  have rb := word_range hb
  have fa := word_first ha
  have hall : ∀ c ∈ nb (a ++ u ++ b), 33 ≤ c ∧ c < 128 ∧ c ≠ 61 := by
    intro c hc
    rcases name_mem c hc with h | h | h
    · have := ra c h; omega
    · exact hu2 c h
    · have := rb c h; omega
  have sa := ha.2
  have sb := hb.2
  have hsz : (a ++ u ++ b).size = a.size + 1 + b.size := by rw [ByteArray.size_append, ByteArray.size_append, hu]
  have hlsz : (lineOfName a u b).size = 2 + (a.size + 1 + b.size) := by
    rw [← nb_length, nb_lineOfName, List.length_append, List.length_append, nb_length, hsz]; simp <;> omega
  have hne : nb (a ++ u ++ b) ≠ [] := fun e => by have := nb_length (a ++ u ++ b); rw [e] at this; simp at this; omega
  have h0 : bx (a ++ u ++ b) 0 = bx a 0 := by
    unfold bx
    rw [nb_append, getD_left _ _ _ (by rw [nb_length, ByteArray.size_append]; omega), nb_append, getD_left _ _ _ (by rw [nb_length]; omega)]
  have hb0 : bx (lineOfName a u b) 0 = 97 := by rw [bx_eq (nb_lineOfName a u b)]; rfl
  refine ⟨⟨by omega, by omega⟩, by omega, ?_, ?_, ⟨by omega, by omega, fun j hj => (hall _ (bx_mem hj)).2.1, fun j hj => (hall _ (bx_mem hj)).2.2, by omega, by omega⟩, by omega⟩
  · rw [hlsz, bx_eq (nb_lineOfName a u b), getD_right _ _ _ (by simp <;> omega), getD_right _ _ _ (by simp <;> omega)]
    have : ∀ j, j < (a ++ u ++ b).size → 33 ≤ (nb (a ++ u ++ b)).getD j 0 := fun j hj => (hall _ (bx_mem hj)).1
    refine this _ ?_
    rw [hsz]; simp <;> omega
  · have := LineOf.more (LineOf.one (l := [97]) (by simp) (fun c hc => isBl_not (by rw [List.mem_singleton] at hc; omega))) (sp := [32]) (by simp) (fun c hc => by rw [List.mem_singleton] at hc; subst hc; rfl) hne (fun c hc => isBl_not (hall c hc).1)
    rw [nb_lineOfName, this.fields]
    rfl
theorem under_vname {a b : ByteArray} (ha : IsWord a) (hb : IsWord b) : vname (a ++ ⟨#[95]⟩ ++ b) = true := by
  have h := name_line ha hb (u := ⟨#[95]⟩) rfl (fun c hc => by simp [nb] at hc; omega)
  have hk : ∀ {s : ByteArray}, IsWord s → ∀ c ∈ nb s, okN c = true := by
    intro s hs c hc
    have := word_okN hs
    unfold vname at this
    rw [Bool.and_eq_true] at this
    exact List.all_eq_true.mp this.2 c hc
  refine vname_yes (by have := h.plain.1; omega) h.head fun j hj => ?_
  rcases name_mem _ (bx_mem hj) with h | h | h
  · exact hk ha _ h
  · have e : bx (a ++ ⟨#[95]⟩ ++ b) j = 95 := by simpa [nb] using h
    rw [e]; rfl
  · exact hk hb _ h
theorem sign_vname {a g b : ByteArray} (ha : IsWord a) (hb : IsWord b) (hg : SignOk g) : vname (a ++ g ++ b) = false := by
  obtain ⟨c, hc, hcc⟩ := hg
  have hs : g.size = 1 := size_of hc
  refine vname_no (k := a.size) (by rw [ByteArray.size_append, ByteArray.size_append]; omega) ?_
  have : bx (a ++ g ++ b) a.size = c := by
    unfold bx
    rw [nb_append, getD_left _ _ _ (by rw [nb_length, ByteArray.size_append]; omega), nb_append, getD_right _ _ _ (by rw [nb_length]; exact Nat.le_refl _), nb_length, Nat.sub_self, hc]
    rfl
  rw [this]
  rcases hcc with rfl | rfl | rfl | rfl | rfl | rfl <;> rfl
theorem sign_line {a g b : ByteArray} (ha : IsWord a) (hb : IsWord b) (hg : SignOk g) : NameLine a g b := by
  obtain ⟨c, hc, hcc⟩ := hg
  refine name_line ha hb (size_of hc) fun d hd => ?_
  rw [hc, List.mem_singleton] at hd
  omega

theorem goodName_any {a b : ByteArray} (ha : IsWord a) (hb : IsWord b) (w : World) :
    Calls Tryd.prog 26 #[.string (⟨#[97, 32]⟩ ++ a ++ ⟨#[95]⟩ ++ b), .slice none 0 0, .bool false] w (OutPost ⟨#[97]⟩ 1 (fun _ => (a ++ ⟨#[95]⟩ ++ b, 1, ⟨#[]⟩)) w) := by
  have h := name_line ha hb (u := ⟨#[95]⟩) rfl (fun c hc => by simp [nb] at hc; omega)
  have hp := h.plain
  exact attrLine_any (lineOfName a ⟨#[95]⟩ b) ⟨#[97]⟩ [a ++ ⟨#[95]⟩ ++ b] (fun _ => (a ++ ⟨#[95]⟩ ++ b, 1, ⟨#[]⟩)) false w h.size.1 h.size.2 h.first h.last h.fields (Nat.le_refl 1) (show 1 ≤ 20 by decide) (by decide) (by decide)
    (fun i hi => by
      obtain rfl : i = 0 := by simpa using hi
      exact ⟨hp.1, hp.2.1, hp.2.2.1, .inr ⟨hp.2.2.2.1, .inr ⟨hp.2.2.2.2.1, hp.2.2.2.2.2, rfl⟩⟩⟩)
    (fun i hi => under_vname ha hb)
theorem badName_any {a b g : ByteArray} (ha : IsWord a) (hb : IsWord b) (hg : SignOk g) (ad : Addr) (msg : ByteArray) (w : World) (hv : ErrAt w 0 ad msg) :
    Calls Tryd.prog 26 #[.string (⟨#[97, 32]⟩ ++ a ++ g ++ b), .slice none 0 0, .bool false] w (OutBad msg w) := by
  have h := sign_line ha hb hg
  exact attrBad_any _ false ad msg _ w hv (parseBad_any (lineOfName a g b) ⟨#[97]⟩ [a ++ g ++ b] ad msg false none 0 0 w h.size.1 h.size.2 h.first h.last h.fields (Nat.le_refl 1) (show 1 ≤ 20 by decide) (by decide) (by decide)
    (fun i hi => by
      obtain rfl : i = 0 := by simpa using hi
      exact h.plain)
    (fun i hi => by
      obtain rfl : i = 0 := by simpa using hi
      exact sign_vname ha hb hg) hv)
theorem emptyLine_any (w : World) : Calls Tryd.prog 26 #[.string ⟨#[]⟩, .slice none 0 0, .bool false] w (OutNone w) :=
  attrNone_any _ false w fun W => parseEmpty_any _ rfl false none 0 0 W
theorem comment_any {a : ByteArray} (ha : IsWord a) (w : World) : Calls Tryd.prog 26 #[.string (⟨#[35, 32]⟩ ++ a), .slice none 0 0, .bool false] w (OutNone w) := by
  have sa := ha.2
  have hn : nb ((⟨#[35, 32]⟩ : ByteArray) ++ a) = [35, 32] ++ nb a := by rw [nb_append]; rfl
  have hsz : ((⟨#[35, 32]⟩ : ByteArray) ++ a).size = 2 + a.size := by rw [ByteArray.size_append]; rfl
  have hb0 : bx ((⟨#[35, 32]⟩ : ByteArray) ++ a) 0 = 35 := by rw [bx_eq hn]; rfl
  refine attrNone_any _ false w fun W => parseComment_any _ false none 0 0 W (by omega) (by omega) (by omega) ?_
  rw [hsz, bx_eq hn, getD_right _ _ _ (by simp <;> omega)]
  have : ∀ j, j < a.size → 33 ≤ (nb a).getD j 0 := fun j hj => by have := word_range ha _ (bx_mem hj); unfold bx at this; omega
  exact this _ (by simp <;> omega)

set_option maxRecDepth 100000 in
set_option maxHeartbeats 4000000 in
theorem lawAtNames_any (a b : ByteArray) (x : Nat) (ad : Addr) (msg : ByteArray) (w : World)
    (ha : a.size ≤ maxLen) (hb : b.size ≤ maxLen) (hx : x < 256) (hv : ErrAt w 0 ad msg) :
    Calls Tryd.prog 5 #[.string a, .string b, .int .u8 (x : Nat)] w (TrueBelow w) := by
  have HEV := Lib.hid hv; clear hv
  go_enter Tryd.func5, Tryd.ntmps5
  by_cases s1 : a.size ≤ 2147483647
  · have s1' : ¬ (2147483647 : Int) < a.size := by omega
    by_cases s2 : b.size ≤ 2147483647
    · have s2' : ¬ (2147483647 : Int) < b.size := by omega
      go_upto_region 3 with (fail)
      have HW1 := fun V => isWord_b a V ha
      have HW2 := fun V => isWord_b b V hb
      have HA : Hid (wordB a = true → IsWord a) := Lib.hid (wordB_iff a).mp
      have HB : Hid (wordB b = true → IsWord b) := Lib.hid (wordB_iff b).mp
      generalize wordB a = B1 at HW1 HA
      generalize wordB b = B2 at HW2 HB
      have HWW1 := Lib.hid HW1; have HWW2 := Lib.hid HW2
      clear HW1 HW2 s1' s2'
      cases B1 with
      | false =>
        clear HA HB
        go_wp2_with fail
        with_reducible refine (HWW1.out _).mono ?_
        rintro e V ⟨rfl, rfl⟩
        go_wp2_with fail
        with_reducible refine (awake_any _).mono ?_
        rintro e V ⟨rfl, hb⟩
        have B := Lib.hid hb; clear hb
        go_wp2
        go_ret
        exact ⟨rfl, B.out⟩
      | true =>
        go_wp2_with fail
        with_reducible refine (HWW1.out _).mono ?_
        rintro e V ⟨rfl, rfl⟩
        go_wp2_with fail
        with_reducible refine (HWW2.out _).mono ?_
        rintro e V ⟨rfl, rfl⟩
        cases B2 with
        | false =>
          clear HA HB
          go_wp2_with fail
          with_reducible refine (awake_any _).mono ?_
          rintro e V ⟨rfl, hb⟩
          have B := Lib.hid hb; clear hb
          go_wp2
          go_ret
          exact ⟨rfl, B.out⟩
        | true =>
          have WA : Hid (IsWord a) := Lib.hid (by first | exact HA.out rfl | exact HA.out trivial)
          have WB : Hid (IsWord b) := Lib.hid (by first | exact HB.out rfl | exact HB.out trivial)
          have l1 : a.size ≤ 30 := WA.out.2.2
          have l2 : b.size ≤ 30 := WB.out.2.2
          clear HA HB HWW1 HWW2 s1 s2 ha hb
          go_upto_region 5 with (fail)
          go_cut [7] (fun v wx => ∃ g : ByteArray, v = .string g ∧ SignOk g ∧ Below w.heap.size w wx)
          case first =>
            have hx6 : x % 6 < 6 := Nat.mod_lt _ (by decide)
            have hxm : Int.tmod (x : Int) 6 = ((x % 6 : Nat) : Int) := by rw [Int.ofNat_tmod]; rfl
            have HBL : Hid (Below w.heap.size w (w.alloc (.cells #[.string ⟨#[42]⟩, .string ⟨#[47]⟩, .string ⟨#[58]⟩, .string ⟨#[64]⟩, .string ⟨#[43]⟩, .string ⟨#[37]⟩] 9))) := Lib.hid ((Below.refl _ _).alloc (Nat.le_refl _) _)
            generalize x % 6 = r at hx6 hxm
            clear WA WB HEV l1 l2
            have hr : r = 0 ∨ r = 1 ∨ r = 2 ∨ r = 3 ∨ r = 4 ∨ r = 5 := by omega
            clear hx6
            rcases hr with rfl | rfl | rfl | rfl | rfl | rfl
            all_goals
              go_wp2
              go_meet
              case rel => exact ⟨_, rfl, ⟨_, rfl, by decide⟩, HBL.out⟩
          case rest =>
            obtain ⟨g, rfl, hg, hb0⟩ := hcut
            have HG := Lib.hid hg
            have B0 := Lib.hid hb0
            clear hg hb0
            have lg : g.size = 1 := sign_size HG.out
            have q1 : ¬ 9223372036854775807 < (⟨#[97, 32]⟩ : ByteArray).size + a.size := by show ¬ _ < 2 + a.size; omega
            have z1 : ((⟨#[97, 32]⟩ : ByteArray) ++ a).size = 2 + a.size := by rw [ByteArray.size_append]; rfl
            have q2 : ¬ 9223372036854775807 < ((⟨#[97, 32]⟩ : ByteArray) ++ a).size + (⟨#[95]⟩ : ByteArray).size := by rw [z1]; show ¬ _ < 2 + a.size + 1; omega
            have z2 : ((⟨#[97, 32]⟩ : ByteArray) ++ a ++ ⟨#[95]⟩).size = 3 + a.size := by rw [ByteArray.size_append, z1]; show 2 + a.size + 1 = _; omega
            have q3 : ¬ 9223372036854775807 < ((⟨#[97, 32]⟩ : ByteArray) ++ a ++ ⟨#[95]⟩).size + b.size := by rw [z2]; omega
            have q4 : ¬ 9223372036854775807 < ((⟨#[97, 32]⟩ : ByteArray) ++ a).size + g.size := by rw [z1]; omega
            have q5 : ¬ 9223372036854775807 < ((⟨#[97, 32]⟩ : ByteArray) ++ a ++ g).size + b.size := by rw [ByteArray.size_append, z1]; omega
            have q6 : ¬ 9223372036854775807 < (⟨#[35, 32]⟩ : ByteArray).size + a.size := by show ¬ _ < 2 + a.size; omega
            have q7 : ¬ 9223372036854775807 < a.size + (⟨#[95]⟩ : ByteArray).size := by show ¬ _ < a.size + 1; omega
            have z3 : (a ++ ⟨#[95]⟩ : ByteArray).size = a.size + 1 := by rw [ByteArray.size_append]; rfl
            have q8 : ¬ 9223372036854775807 < (a ++ ⟨#[95]⟩ : ByteArray).size + b.size := by rw [z3]; omega
            clear z1 z2 z3
            go_wp2_with fail
            with_reducible refine (goodName_any WA.out WB.out _).mono ?_
            rintro e w1 ⟨v1, rfl, hown, hb⟩
            have HO1 := Lib.hid hown
            have B1 := Lib.hid (B0.out.trans (hb.mono B0.out.size))
            obtain ⟨g1, cap, rfl, hgw, hgl⟩ := hown.form (by decide)
            clear hown hb hgw
            have HE1 := Lib.hid (HEV.out.below B1.out)
            go_wp2_with fail
            with_reducible refine (badName_any WA.out WB.out HG.out ad msg _ HE1.out).mono ?_
            rintro e w2 ⟨rfl, hb⟩
            have HO2 := Lib.hid (hb.cell (p := ⟨g1, 0, none⟩) hgl |>.trans ((HO1.out.cellAt 0 (by decide)).trans (show _ = some (.string (a ++ ⟨#[95]⟩ ++ b)) from rfl)))
            have B2 := Lib.hid (B1.out.trans (hb.mono B1.out.size))
            have hgl2 : g1 < w2.heap.size := Nat.lt_of_lt_of_le hgl hb.size
            clear hb HO1 hgl HE1
            go_wp2_with fail
            with_reducible refine (emptyLine_any _).mono ?_
            rintro e w3 ⟨rfl, hb⟩
            have HO3 := Lib.hid ((hb.cell (p := ⟨g1, 0, none⟩) hgl2).trans HO2.out)
            have B3 := Lib.hid (B2.out.trans (hb.mono B2.out.size))
            have hgl3 : g1 < w3.heap.size := Nat.lt_of_lt_of_le hgl2 hb.size
            clear hb HO2 hgl2
            go_wp2_with fail
            with_reducible refine (comment_any WA.out _).mono ?_
            rintro e w4 ⟨rfl, hb⟩
            have HO4 := Lib.hid ((hb.cell (p := ⟨g1, 0, none⟩) hgl3).trans HO3.out)
            have B4 := Lib.hid (B3.out.trans (hb.mono B3.out.size))
            clear hb HO3 hgl3
            have c0 := HO4.out
            have t1 : ((a ++ ⟨#[95]⟩ ++ b : ByteArray).toList == (a ++ ⟨#[95]⟩ ++ b : ByteArray).toList) = true := beq_self_eq_true _
            have t2 := isEmpty_str_not msg HEV.out.some
            go_upto_region 10 with (fail)
            go_wp2_with fail
            with_reducible refine (awake_any _).mono ?_
            rintro e w5 ⟨rfl, hb⟩
            have B5 := Lib.hid (B4.out.trans (hb.mono B4.out.size)); clear hb
            go_wp2
            go_ret
            exact ⟨rfl, B5.out⟩
    · have s2' : (2147483647 : Int) < b.size := by omega
      clear s2
      go_wp2
      go_ret
      exact ⟨rfl, Below.refl _ _⟩
  · have s1' : (2147483647 : Int) < a.size := by omega
    clear s1
    go_wp2
    go_ret
    exact ⟨rfl, Below.refl _ _⟩
end Go.Proofs.YteipeagdflcjjaaDoor
