/- FnAttrMacro: the walk. -/
import Derived.Test.YteipeagdflcjjaaDoorQMaV
import Derived.Test.YteipeagdflcjjaaDoorQAmU
import Derived.Test.YteipeagdflcjjaaDoorQPartD
import Derived.BigQuiet
namespace Go.Proofs.YteipeagdflcjjaaDoor.Am
open Go.RowKit
set_option linter.unusedSimpArgs false
set_option linter.unusedVariables false

theorem gaInfoM : (Tryd.prog.info? 42).map (fun i => (i.zero, i.size, i.bytes)) = some (some (.agg #[.string ⟨#[]⟩, .int .u8 0, .string ⟨#[]⟩]), 3, 40) := by kernel_rfl
theorem gasKindM : Tryd.prog.underlying 37 = some (.slice 42) := by kernel_rfl
def in3 (a : AttrT) : List Value := [.string a.1, .int .u8 (a.2.1 : Nat), .string a.2.2]
theorem in3_at (n : Nat) (g : Nat → AttrT) (k t : Nat) (hk : k < n) (ht : t < 3) : ((List.range n).flatMap fun i => in3 (g i))[k * 3 + t]? = (in3 (g k))[t]? := by
  have hlen : ∀ m, ((List.range m).flatMap fun i => in3 (g i)).length = m * 3 := by
    intro m
    induction m with
    | zero => rfl
    | succ m ih => rw [List.range_succ, List.flatMap_append, List.length_append, ih]; simp [in3]; omega
  induction n with
  | zero => omega
  | succ n ih =>
    rw [List.range_succ, List.flatMap_append]
    by_cases h : k = n
    · subst h
      rw [List.getElem?_append_right (by rw [hlen]; omega), hlen, Nat.add_sub_cancel_left]
      simp
    · rw [List.getElem?_append_left (by rw [hlen]; have : (k + 1) * 3 ≤ n * 3 := Nat.mul_le_mul_right 3 (by omega); omega)]
      exact ih (by omega)
theorem in3_len (n : Nat) (g : Nat → AttrT) : ((List.range n).flatMap fun i => in3 (g i)).length = n * 3 := by
  induction n with
  | zero => rfl
  | succ n ih => rw [List.range_succ, List.flatMap_append, List.length_append, ih]; simp [in3]; omega
theorem in3_one (n : Nat) (g : Nat → AttrT) : ∀ u ∈ (List.range n).flatMap fun i => in3 (g i), u.oneCell' = true := by
  intro u hu
  rw [List.mem_flatMap] at hu
  obtain ⟨i, _, hu⟩ := hu
  unfold in3 at hu
  simp at hu
  rcases hu with rfl | rfl | rfl <;> rfl
/-- The macro's own attribute ahead of the others. -/
def ahead (mac : ByteArray) (g : Nat → AttrT) (i : Nat) : AttrT := if i = 0 then macA mac else g (i - 1)
theorem ahead_rows (mac : ByteArray) (n : Nat) (g : Nat → AttrT) : in3 (macA mac) ++ ((List.range n).flatMap fun i => in3 (g i)) = (List.range (1 + n)).flatMap fun i => in3 (ahead mac g i) := by
  rw [Nat.add_comm 1 n, List.range_succ_eq_map, List.flatMap_cons, List.flatMap_map]
  rfl
theorem gas_news {w : World} {b o n : Nat} {g : Nat → AttrT} (h : GAs w (some ⟨b, o, none⟩) n g) : ∀ j u, ((List.range n).flatMap fun i => in3 (g i))[j]? = some u → w.cell? ((⟨b, o, none⟩ : Addr).add j) = some u := by
  intro j u hj
  have hjl : j < n * 3 := by rw [← in3_len n g]; exact (List.getElem?_eq_some_iff.mp hj).1
  obtain ⟨k, t, hkt, ht⟩ : ∃ k t, j = k * 3 + t ∧ t < 3 := ⟨j / 3, j % 3, by omega, by omega⟩
  subst hkt
  rw [in3_at n g k t (by omega) ht] at hj
  have hadd : (⟨b, o, none⟩ : Addr).add (k * 3 + t) = ⟨b, o + (k * 3 + t), none⟩ := by unfold Addr.add; split <;> simp_all
  rw [hadd]
  obtain ⟨_, _, e, _, c0, c1, c2, _⟩ := h k (by omega)
  injection e with e
  injection e with e1 e2
  subst e1; subst e2
  rcases (show t = 0 ∨ t = 1 ∨ t = 2 by omega) with rfl | rfl | rfl
  · rw [← hj, ← Nat.add_assoc]; exact c0
  · rw [← hj, ← Nat.add_assoc]; exact c1
  · rw [← hj, ← Nat.add_assoc]; exact c2
theorem nodup_le {α : Type} : ∀ {l m : List α}, l.Nodup → (∀ a, a ∈ l → a ∈ m) → l.length ≤ m.length := by
  intro l
  induction l with
  | nil => intro m _ _; exact Nat.zero_le _
  | cons a l ih =>
    intro m hn hs
    obtain ⟨h1, h2⟩ := List.nodup_cons.mp hn
    obtain ⟨x, y, rfl⟩ := List.append_of_mem (hs a (List.mem_cons_self ..))
    have := ih (m := x ++ y) h2 fun b hb => by
      have hb2 := hs b (List.mem_cons_of_mem _ hb)
      rcases List.mem_append.mp hb2 with h | h
      · exact List.mem_append_left _ h
      · rcases List.mem_cons.mp h with rfl | h
        · exact absurd hb h1
        · exact List.mem_append_right _ h
    rw [List.length_append] at this ⊢
    rw [List.length_cons, List.length_cons]; omega
/-- As many are told as the macro stands for, and itself. -/
theorem mac_len {mac : ByteArray} {n : Nat} {g : Nat → AttrT} {l : List AttrT} (hl : ∀ a, a ∈ l ↔ true = true ∧ (a = macA mac ∨ ∃ j, j < n ∧ readOf (g j) = a)) (hs : SortedBy (fun a : AttrT => a.1) l)
    (hd : ∀ i j, j < i → i < n → (g i).1 ≠ (g j).1) (hne : ∀ i, i < n → (g i).1 ≠ mac) : l.length = n + 1 := by
  have hnl : l.Nodup := List.Pairwise.imp (fun {a b} h e => by rw [e, ltS_irrefl] at h; cases h) hs
  have hE : (macA mac :: (List.range n).map fun j => readOf (g j)).Nodup := by
    refine List.nodup_cons.mpr ⟨fun h => ?_, ?_⟩
    · obtain ⟨j, hj, e⟩ := List.mem_map.mp h
      have : (readOf (g j)).1 = mac := by rw [e]; rfl
      exact hne j (List.mem_range.mp hj) this
    · refine List.pairwise_iff_getElem.mpr fun i j hi hj hij e => ?_
      rw [List.length_map, List.length_range] at hi hj
      rw [List.getElem_map, List.getElem_map, List.getElem_range, List.getElem_range] at e
      have : (readOf (g i)).1 = (readOf (g j)).1 := by rw [e]
      exact hd j i hij hj this.symm
  have h1 := nodup_le hnl (m := macA mac :: (List.range n).map fun j => readOf (g j)) fun a ha => by
    rcases ((hl a).mp ha).2 with rfl | ⟨j, hj, e⟩
    · exact List.mem_cons_self ..
    · exact List.mem_cons_of_mem _ (List.mem_map.mpr ⟨j, List.mem_range.mpr hj, e⟩)
  have h2 := nodup_le hE (m := l) fun a ha => by
    rcases List.mem_cons.mp ha with rfl | ha
    · exact (hl _).mpr ⟨rfl, .inl rfl⟩
    · obtain ⟨j, hj, e⟩ := List.mem_map.mp ha
      exact (hl _).mpr ⟨rfl, .inr ⟨j, List.mem_range.mp hj, e⟩⟩
  rw [List.length_cons, List.length_map, List.length_range] at h1 h2
  omega
theorem mac_has {mac : ByteArray} {n : Nat} {g : Nat → AttrT} {l : List AttrT} (hl : ∀ a, a ∈ l ↔ true = true ∧ (a = macA mac ∨ ∃ j, j < n ∧ readOf (g j) = a)) (i : Nat) (hi : i < 1 + n) : ∃ r, r < l.length ∧ l.getD r zA = readOf (ahead mac g i) := by
  have hm : readOf (ahead mac g i) ∈ l := by
    refine (hl _).mpr ⟨rfl, ?_⟩
    by_cases h0 : i = 0
    · subst h0; exact .inl rfl
    · refine .inr ⟨i - 1, by omega, ?_⟩
      unfold ahead; rw [if_neg h0]
  obtain ⟨r, hr, e⟩ := List.mem_iff_getElem.mp hm
  exact ⟨r, hr, by rw [List.getD_eq_getElem?_getD, List.getElem?_eq_getElem hr]; exact e⟩
theorem out_cellsM {w : World} {B : Nat} {v : Value} {l : List AttrT} (h : OutAt w B v l) (hl : 0 < l.length) : ∃ g c, v = .slice (some ⟨g, 0, none⟩) l.length c ∧ g < w.heap.size ∧ ∀ i, i < l.length → ∀ t, t < 3 → w.cell? ⟨g, i * 3 + t, none⟩ = (out3 (l.getD i zA))[t]? := by
  rcases h.2 with ⟨_, h0⟩ | ⟨g, cap, cur, rfl, _, hg, _⟩
  · omega
  · refine ⟨g, cap, rfl, (Array.getElem?_eq_some_iff.1 hg).1, fun i hi t ht => ?_⟩
    have hlt : t < (out3 (l.getD i zA)).length := ht
    have h1 : (l.flatMap out3)[i * 3 + t]? = some (out3 (l.getD i zA))[t] := by rw [flat_out _ _ _ hi ht, List.getElem?_eq_getElem hlt]
    have hc := h.cells (g := g) rfl (i * 3 + t) _ h1
    have hadd : (⟨g, 0, none⟩ : Addr).add (i * 3 + t) = ⟨g, i * 3 + t, none⟩ := by unfold Addr.add; split <;> simp_all
    rw [hadd] at hc
    rw [hc, List.getElem?_eq_getElem hlt]
theorem out_nilM {w : World} {B : Nat} {v : Value} (h : OutAt w B v []) : ∃ A c, v = .slice A 0 c := by
  rcases h.2 with ⟨h, _⟩ | ⟨g, cap, cur, h, _⟩
  · exact ⟨none, 0, h⟩
  · exact ⟨_, cap, h⟩
theorem wpList_app_runT (w : World) (t : TypeId) {ops : Array Oper} {rest : List Oper} {o : Oper} {a : Act} {Q : Exit → Act → World → Prop} (hgd : o.guard = none) (s x : Operand)
    (ho : o.op = .call { callee := .builtin .append, args := #[s, x], argTypes := #[t, t] }) (vs vx : Value) (hs : a.eval s = vs) (hx : a.eval x = vx) (v' : Value) (w' : World)
    (hr : (Builtin.append_ #[t, t] o.type #[vs, vx]).run Tryd.prog w = .ok v' w') (h : wpList Tryd.prog ops Q rest (a.put o.dst v') w') : wpList Tryd.prog ops Q (o :: rest) a w := by
  refine wpList_plain hgd fun K hK => ?_
  unfold Oper.wp execOp
  simp only [ho, resolve, invoke, builtin, Sem.run_bind, Sem.run_pure, Result.andThen_ok, List.map_toArray, List.map_cons, List.map_nil, hs, hx, hr]
  exact hK _ _ h
theorem ahead_good {mac : ByteArray} {n : Nat} {g : Nat → AttrT} (hw : IsWord mac) (hg : ∀ i, i < n → GoodA (g i)) (i : Nat) (hi : i < 1 + n) : GoodA (ahead mac g i) := by
  unfold ahead
  split
  · exact macA_good hw
  · exact hg _ (by omega)

set_option maxRecDepth 100000 in
set_option maxHeartbeats 8000000 in
theorem lawAtMacro_any (mac nm : ByteArray) (A1 A2 : Option Addr) (n1 c1 n2 c2 : Nat) (g1 : Nat → AttrT) (f2 : Nat → ByteArray) (ea eb : Addr) (msg msb : ByteArray) (w : World)
    (hm0 : mac.size ≤ maxLen) (m1 : n1 ≤ c1) (m1c : c1 ≤ maxLen) (h1 : GAs w A1 n1 g1) (hn0 : nm.size ≤ maxLen) (m2 : n2 ≤ maxLen) (h2 : Strs w A2 n2 f2) (hE : ErrAt w 6 ea msg) (hEB : ErrAt w 1 eb msb) :
    Calls Tryd.prog 9 #[.string mac, .slice A1 n1 c1, .string nm, .slice A2 n2 c2] w (TrueBelow w) := by
  have H1 := Lib.hid h1; have H2 := Lib.hid h2; have HE := Lib.hid hE; have HEB := Lib.hid hEB
  clear h1 h2 hE hEB
  unfold maxLen at hm0 hn0
  go_enter Tryd.func9, Tryd.ntmps9
  go_upto_region 1 with (fail)
  go_cut [47] (fun v wx => ∃ B : Bool, v = .bool B ∧ (B = false → mac.size ≤ 2147483647 ∧ F29 n1 g1 ∧ nm.size ≤ 2147483647 ∧ (n2 ≤ 2147483647 ∧ ∀ i, i < n2 → (f2 i).size ≤ 2147483647)) ∧ Below w.heap.size w wx)
  case first =>
    try clear_value *
    as_aux_lemma =>
    by_cases hs : mac.size ≤ 2147483647
    · have hs' : ¬ (2147483647 : Int) < mac.size := by omega
      go_wp2_with fail
      with_reducible refine (fits29_any _ _ _ g1 _ (Nat.le_trans m1 m1c) H1.out).mono ?_
      rintro e w2 ⟨r2, rfl, hr2, hb⟩
      have HR2 := Lib.hid hr2; have HB2 := Lib.hid hb; clear hr2 hb
      cases r2 with
      | false =>
        go_wp2
        go_meet
        case rel => exact ⟨true, rfl, fun h => (by cases h), HB2.out⟩
      | true =>
        by_cases ht : nm.size ≤ 2147483647
        · have ht' : ¬ (2147483647 : Int) < nm.size := by omega
          go_wp2_with fail
          with_reducible refine (fits3_any _ _ _ f2 _ m2 (H2.out.below HB2.out)).mono ?_
          rintro e w3 ⟨r3, rfl, hr3, rfl⟩
          have HR3 := Lib.hid hr3; clear hr3
          cases r3 with
          | false =>
            go_wp2
            go_meet
            case rel => exact ⟨true, rfl, fun h => (by cases h), HB2.out⟩
          | true =>
            go_wp2
            go_meet
            case rel => exact ⟨false, rfl, fun _ => ⟨hs, (by first | exact HR2.out rfl | exact HR2.out trivial), ht, (by first | exact HR3.out rfl | exact HR3.out trivial)⟩, HB2.out⟩
        · have ht' : (2147483647 : Int) < nm.size := by omega
          go_wp2
          go_meet
          case rel => exact ⟨true, rfl, fun h => (by cases h), HB2.out⟩
    · have hs' : (2147483647 : Int) < mac.size := by omega
      go_wp2
      go_meet
      case rel => exact ⟨true, rfl, fun h => (by cases h), Below.refl _ _⟩
  case rest =>
    obtain ⟨B, rfl, hB, hb⟩ := hcut
    have B1 := Lib.hid hb; clear hb
    cases B with
    | true =>
      clear hB
      go_wp2
      go_ret
      exact ⟨rfl, B1.out⟩
    | false =>
      obtain ⟨sm, ⟨s1, hs1⟩, s0, ⟨s2, hs2⟩⟩ := hB rfl
      have HS1 := Lib.hid hs1; have HS2 := Lib.hid hs2
      clear hB hs1 hs2
      go_upto_region 3 with (fail)
      go_cut [77] (fun v wx => ∃ B : Bool, v = .bool B ∧ (B = false → IsWord mac ∧ (GoodPart nm ∧ NoDD nm) ∧ AreP n1 g1 ∧ (1 ≤ n2 ∧ n2 ≤ 5 ∧ ∀ i, i < n2 → NameOk (f2 i))) ∧ Below w.heap.size w wx)
      case first =>
        try clear_value *
        as_aux_lemma =>
        go_wp2_with fail
        with_reducible refine (isWord_any mac _ (by unfold maxLen; omega)).mono ?_
        rintro e w4 ⟨r0, rfl, hr0, rfl⟩
        have HR0 := Lib.hid hr0
        clear hr0
        cases r0 with
        | false =>
          go_wp2
          go_meet
          case rel => exact ⟨true, rfl, fun h => (by cases h), B1.out⟩
        | true =>
        go_wp2_with fail
        with_reducible refine (areGlob_any _ _ _ g1 _ s1 m1 m1c (H1.out.below B1.out)).mono ?_
        rintro e w6 ⟨r2, rfl, hr2, hb⟩
        have HR2 := Lib.hid hr2
        have B3 : Hid (Below w.heap.size w w6) := Lib.hid (B1.out.trans (hb.mono B1.out.size))
        clear hr2 hb
        cases r2 with
        | false =>
          go_wp2
          go_meet
          case rel => exact ⟨true, rfl, fun h => (by cases h), B3.out⟩
        | true =>
        go_wp2_with fail
        with_reducible refine (isGlobPartD_any nm _ s0).mono ?_
        rintro e w5 ⟨r1, rfl, hr1, hb⟩
        have HR1 := Lib.hid hr1
        have B2 : Hid (Below w.heap.size w w5) := Lib.hid (B3.out.trans (hb.mono B3.out.size))
        clear hr1 hb
        cases r1 with
        | false =>
          go_wp2
          go_meet
          case rel => exact ⟨true, rfl, fun h => (by cases h), B2.out⟩
        | true =>
        have hq1 := beq_str nm [42, 42]
        have HNB : Hid ((nb nm == ([42, 42] : List UInt8).map UInt8.toNat) = false → GoodPart nm ∧ NoDD nm) := Lib.hid fun h => by
          rcases HR1.out rfl with h2 | h2
          · rw [h2] at h; exact absurd h (by decide)
          · exact h2
        generalize (nb nm == ([42, 42] : List UInt8).map UInt8.toNat) = x1 at hq1 HNB
        have hq2 := beq_str nm [46]
        have hq3 := beq_str nm [46, 46]
        generalize (nb nm == ([46] : List UInt8).map UInt8.toNat) = x2 at hq2
        generalize (nb nm == ([46, 46] : List UInt8).map UInt8.toNat) = x3 at hq3
        cases x1 with
        | true =>
          go_wp2
          go_meet
          case rel => exact ⟨true, rfl, fun h => (by cases h), B2.out⟩
        | false =>
        cases x2 with
        | true =>
          go_wp2
          go_meet
          case rel => exact ⟨true, rfl, fun h => (by cases h), B2.out⟩
        | false =>
        cases x3 with
        | true =>
          go_wp2
          go_meet
          case rel => exact ⟨true, rfl, fun h => (by cases h), B2.out⟩
        | false =>
        go_wp2_with fail
        with_reducible refine (isGlobPath_any _ _ _ f2 _ s2 (H2.out.below B2.out) HS2.out).mono ?_
        rintro e w7 ⟨r3, rfl, hr3, rfl⟩
        have HR3 := Lib.hid hr3; clear hr3
        cases r3 with
        | false =>
          go_wp2
          go_meet
          case rel => exact ⟨true, rfl, fun h => (by cases h), B2.out⟩
        | true =>
          go_wp2
          go_meet
          case rel => exact ⟨false, rfl, fun _ => ⟨(by first | exact HR0.out.mp rfl | exact HR0.out.mp trivial | simpa using HR0.out), (by first | exact HNB.out rfl | exact HNB.out trivial), (by first | exact HR2.out rfl | exact HR2.out trivial), (by first | exact HR3.out rfl | exact HR3.out trivial)⟩, B2.out⟩
      case rest =>
        obtain ⟨B, rfl, hB, hb⟩ := hcut
        have B2 := Lib.hid hb; clear hb
        cases B with
        | true =>
          clear hB
          go_wp2_with fail
          with_reducible refine (awake_any _).mono ?_
          rintro e w3 ⟨rfl, hb⟩
          have B3 := Lib.hid (B2.out.trans (hb.mono B2.out.size)); clear hb
          go_wp2
          go_ret
          exact ⟨rfl, B3.out⟩
        | false =>
          obtain ⟨hword, ⟨hgp, hdd⟩, hare, q1, q5, hnm⟩ := hB rfl
          have HW := Lib.hid hword; have HGP := Lib.hid hgp; have HDD := Lib.hid (noDD_sub hdd); have HARE := Lib.hid hare; have HNM := Lib.hid hnm
          have hn5 : n1 ≤ 5 := hare.2.1
          have hnz : nm.size ≤ 10 := (toks_spec hgp).2.2.2
          have hmz : mac.size ≤ 30 := hword.2.2
          clear hB hword hgp hdd hare hnm
          obtain ⟨b2, o2, hA2, _⟩ := H2.out 0 (by omega)
          subst hA2
          have hl6 : ¬ 9223372036854775807 < 6 + mac.size := by omega
          go_upto_region 7 with (fail)
          go_loopw [9, 83] (fun tv iv wr => ∃ (k : Nat) (t : ByteArray), k ≤ n1 ∧ iv = .int .i64 (k : Nat) ∧ tv = .string t ∧ nb t = lineL (nb (macroP ++ mac)) [32] g1 k ∧ (∀ i, i < k → (g1 i).1 ≠ mac) ∧ Below w.heap.size w wr) (fun _ iv _ => n1 - (intOf iv).toNat)
          case atStart => exact ⟨0, macroP ++ mac, Nat.zero_le _, rfl, rfl, rfl, fun i hi => absurd hi (Nat.not_lt_zero _), B2.out⟩
          case round =>
            obtain ⟨k, t, hk, rfl, rfl, ht, hnem, hb⟩ := hrel
            have HT := Lib.hid ht; have HNEM := Lib.hid hnem; have B4 := Lib.hid hb
            clear ht hnem hb
            have HTL : Hid (t.size ≤ 400) := Lib.hid (by
              have h1 := line_len (nb (macroP ++ mac)) [32] g1 k fun i hi => HARE.out.2.2.1 i (by omega)
              have hml : (nb (macroP ++ mac)).length = 6 + mac.size := by rw [mac_nb, List.length_append, nb_length]; rfl
              rw [← HT.out, nb_length, hml] at h1
              have h4 : k * ([32].length + 62) ≤ 5 * 63 := Nat.mul_le_mul (by omega) (Nat.le_refl 63)
              omega)
            by_cases hlt : k < n1
            · have hltI : (k : Int) < n1 := by omega
              obtain ⟨b, off, rfl, _, k0, k1, k2, _⟩ := (H1.out.below B4.out) k hlt
              have HGA := Lib.hid (HARE.out.2.2.1 k hlt)
              have HLE : Hid (lineL (nb (macroP ++ mac)) [32] g1 (k + 1) = nb t ++ ([32] ++ gaText (g1 k))) := Lib.hid (by rw [HT.out]; rfl)
              have HN1 : Hid ((g1 k).1 ≠ mac → ∀ i, i < k + 1 → (g1 i).1 ≠ mac) := Lib.hid fun h i hi => by
                by_cases e : i = k
                · rw [e]; exact h
                · exact HNEM.out i (by omega)
              generalize g1 k = a at k0 k1 k2 HGA HLE HN1
              obtain ⟨a1, a2, a3⟩ := a
              dsimp only at k0 k1 k2 HN1
              have hz1 : a1.size ≤ 1000 := by have h3 : a1.size ≤ 30 := HGA.out.1.2.2; omega
              have hz3 : a3.size ≤ 1000 := by
                by_cases h : a2 = 3
                · have h3 : a3.size ≤ 30 := (HGA.out.2.2.1 h).2.2; omega
                · have h3 : a3.size = 0 := HGA.out.2.2.2 h; omega
              by_cases he : a1 = mac
              · have q1 : (a1.toList == mac.toList) = true := by rw [he]; exact beq_self_eq_true _
                clear he HN1
                go_wp2_with fail
                with_reducible refine (awake_any _).mono ?_
                rintro e w3 ⟨rfl, hb⟩
                have B5 : Hid (Below w.heap.size w w3) := Lib.hid ((B4.out.alloc B4.out.size _).trans (hb.mono (by rw [heap_new_size]; have := B4.out.size; omega)))
                clear hb
                go_wp2
                go_ret
                exact ⟨rfl, B5.out⟩
              · have q1 : (a1.toList == mac.toList) = false := by
                  rw [beq_eq_false_iff_ne]
                  exact fun e => he (toList_inj e)
                have HNE := Lib.hid he
                clear he
                go_wp2_with fail
                with_reducible refine (globAttr_any a1 a2 a3 _ hz1 hz3).mono ?_
                rintro e w5 ⟨s, rfl, hs, hb⟩
                have HS := Lib.hid hs
                have B5 : Hid (Below w.heap.size w w5) := Lib.hid ((B4.out.alloc B4.out.size _).trans (hb.mono (by rw [heap_new_size]; have := B4.out.size; omega)))
                clear hb hs k0 k1 k2
                have q1 : s.size ≤ 62 := by rw [size_of HS.out]; exact (gaText_len HGA.out).2
                have q3 : t.size ≤ 400 := HTL.out
                have q4 : ¬ 9223372036854775807 < 1 + s.size := by omega
                have q5 : ¬ 9223372036854775807 < t.size + (1 + s.size) := by omega
                have q6 : ¬ 9223372036854775807 < t.size + ((⟨#[32]⟩ : ByteArray) ++ s).size := by rw [ByteArray.size_append]; show ¬ 9223372036854775807 < t.size + (1 + s.size); omega
                go_wp2
                go_roundw
                case rel => exact ⟨k + 1, _, by omega, by go_num, rfl, by rw [nb_append, nb_append, HLE.out, HS.out]; rfl, HN1.out HNE.out, B5.out⟩
                case measure => simp [intOf]; omega
            · obtain rfl : k = n1 := by omega
              clear hlt
              have HML : Hid (MacLine t mac k g1) := Lib.hid ⟨HW.out, HARE.out, HT.out⟩
              have hk1 : 1 ≤ k := HARE.out.1
              go_wp2_with fail
              with_reducible refine (attrMac_any t mac k (fun i => readOf (g1 i)) _ hk1 (by omega) (fun W => readMac_any HML.out none 0 0 W)).mono ?_
              rintro e w5 ⟨v5, rfl, hown5, hb⟩
              have B5 := Lib.hid (B4.out.trans (hb.mono B4.out.size))
              obtain ⟨g5, cap5, rfl, _, _⟩ := hown5.form hk1
              clear hb hown5
              go_wp2_with fail
              with_reducible refine (attrBad_any t false eb msb _ _ (HEB.out.below B5.out) (readMacBad_any HML.out none 0 0 _ (HEB.out.below B5.out))).mono ?_
              rintro e w6 ⟨rfl, hb⟩
              have B6 := Lib.hid (B5.out.trans (hb.mono B5.out.size))
              have hms : (msb.toList == ([] : List UInt8)) = false := by
                rw [beq_eq_false_iff_ne]
                intro e
                exact HEB.out.some (by rw [← nb_length]; unfold nb; rw [← toList_data, e]; rfl)
              have q2 : ((k : Int) != (k : Int)) = false := bne_self_eq_false _
              have q3 : t.size ≤ 400 := HTL.out
              clear hb
              go_upto_region 17 with (fail)
              have q4 : ¬ 9223372036854775807 < t.size + 1 := by omega
              have q5 : ¬ 9223372036854775807 < t.size + 1 + nm.size := by omega
              have q6 : ¬ 9223372036854775807 < t.size + 1 + nm.size + 1 := by omega
              have q7 : ¬ 9223372036854775807 < t.size + 1 + nm.size + 1 + mac.size := by omega
              have q8 : ¬ 9223372036854775807 < t.size + 1 + nm.size + 1 + mac.size + 1 := by omega
              have q5' : ¬ 9223372036854775807 ≤ t.size + 1 + nm.size := by omega
              have q7' : ¬ 9223372036854775807 ≤ t.size + 1 + nm.size + 1 + mac.size := by omega
              have e1 : (t ++ (⟨#[10]⟩ : ByteArray)).size = t.size + 1 := ByteArray.size_append
              have e2 : (t ++ (⟨#[10]⟩ : ByteArray) ++ nm).size = t.size + 1 + nm.size := by rw [ByteArray.size_append, e1]
              have e3 : (t ++ (⟨#[10]⟩ : ByteArray) ++ nm ++ (⟨#[32]⟩ : ByteArray)).size = t.size + 1 + nm.size + 1 := by rw [ByteArray.size_append, e2]; rfl
              have e4 : (t ++ (⟨#[10]⟩ : ByteArray) ++ nm ++ (⟨#[32]⟩ : ByteArray) ++ mac).size = t.size + 1 + nm.size + 1 + mac.size := by rw [ByteArray.size_append, e3]
              have r5 : ¬ 9223372036854775807 < (t ++ (⟨#[10]⟩ : ByteArray)).size + nm.size := by omega
              have r6 : ¬ 9223372036854775807 < (t ++ (⟨#[10]⟩ : ByteArray) ++ nm).size + 1 := by omega
              have r7 : ¬ 9223372036854775807 < (t ++ (⟨#[10]⟩ : ByteArray) ++ nm ++ (⟨#[32]⟩ : ByteArray)).size + mac.size := by omega
              have r8 : ¬ 9223372036854775807 < (t ++ (⟨#[10]⟩ : ByteArray) ++ nm ++ (⟨#[32]⟩ : ByteArray) ++ mac).size + 1 := by omega
              clear e1 e2 e3 e4
              obtain ⟨_, _, hA, _, l0⟩ := (H2.out.below B6.out) (n2 - 1) (by omega)
              injection hA with hA
              injection hA with hA hA2
              subst hA; subst hA2
              have HNL : Hid (NameOk (f2 (n2 - 1))) := Lib.hid (HNM.out _ (by omega))
              have y1 : (0 : Int) ≤ (n2 : Int) - 1 := by omega
              have y2 : (n2 : Int) - 1 < n2 := by omega
              go_wp2_with fail
              with_reducible refine (name_part (p := nm) (x := f2 (n2 - 1)) HGP.out (by have := HNL.out.six; omega) _).mono ?_
              rintro e w7 ⟨rfl, m7, hw7⟩
              have B7 : Hid (Below w.heap.size w w7) := Lib.hid (by rw [hw7]; exact below_drewN B6.out _)
              clear hw7 l0
              obtain ⟨hit, hhit⟩ : ∃ hit, MR nm (f2 (n2 - 1)) = hit := ⟨_, rfl⟩
              rw [hhit]
              have HHIT := Lib.hid hhit
              clear hhit
              have HTX : Hid (nb (t ++ (⟨#[10]⟩ : ByteArray) ++ nm ++ (⟨#[32]⟩ : ByteArray) ++ mac ++ (⟨#[10]⟩ : ByteArray)) = lineL (nb (macroP ++ mac)) [32] g1 k ++ [10] ++ (lineL (nb nm) [32] (fun _ => macA mac) 1 ++ [10])) := Lib.hid (by
                rw [nb_append, nb_append, nb_append, nb_append, nb_append, HT.out]
                show _ = _ ++ [10] ++ ((nb nm ++ ([32] ++ nb mac)) ++ [10])
                simp [nb])
              go_wp2_with fail
              with_reducible refine (matchMac_any _ mac nm k g1 f2 (some ⟨b2, o2, none⟩) n2 c2 ea msg _ HGP.out HDD.out HARE.out HW.out HNEM.out HTX.out (HE.out.below B7.out) (H2.out.below B7.out) ⟨by omega, by omega⟩ (fun i hi => (HNM.out i hi).nm)).mono ?_
              rintro e w8 ⟨v, l, rfl, hml, hsl, hol, hb⟩
              rw [HHIT.out] at hml ⊢
              have B8 := Lib.hid (B7.out.trans (hb.mono B7.out.size))
              clear hb
              cases hit with
              | false =>
                have hnil : l = [] := by
                  cases l with
                  | nil => rfl
                  | cons a l => exact absurd ((hml a).mp (List.mem_cons_self ..)).1 (by decide)
                subst hnil
                obtain ⟨A, c, rfl⟩ := out_nilM hol
                clear hml hsl hol
                go_wp2_with fail
                with_reducible refine (awake_any _).mono ?_
                rintro e w3 ⟨rfl, hb⟩
                have B9 := Lib.hid (B8.out.trans (hb.mono B8.out.size)); clear hb
                go_wp2
                go_ret
                exact ⟨rfl, B9.out⟩
              | true =>
                have hll : l.length = k + 1 := mac_len hml hsl HARE.out.2.2.2 HNEM.out
                obtain ⟨g, c, rfl, hgw, hrows⟩ := out_cellsM hol (by omega)
                have HHAS : Hid (∀ i, i < 1 + k → ∃ r, r < k + 1 ∧ l.getD r zA = readOf (ahead mac g1 i)) := Lib.hid fun i hi => by
                  obtain ⟨r, hr, e⟩ := mac_has hml i hi
                  exact ⟨r, by rw [← hll]; exact hr, e⟩
                have HROW : Hid (∀ i, i < k + 1 → ∀ t, t < 3 → w8.cell? ⟨g, i * 3 + t, none⟩ = (out3 (l.getD i zA))[t]?) := Lib.hid fun i hi => hrows i (by rw [hll]; exact hi)
                rw [hll]
                clear hml hsl hol hrows hll
                have HGW := Lib.hid hgw
                clear hgw
                obtain ⟨b1, o1, hA1, _⟩ := H1.out 0 (by omega)
                subst hA1
                have HGAS : Hid (GAs (w8.alloc (.cells #[.string mac, .int .u8 1, .string ⟨#[]⟩] 42)) (some ⟨b1, o1, none⟩) k g1) := Lib.hid (H1.out.below (B8.out.alloc B8.out.size _))
                obtain ⟨i0, hi, hz0, hz1, hz2⟩ := info_parts gaInfoM
                obtain ⟨g9, cap9, w9, hr9, hown9, hg9, _, hlt9⟩ := run_append_lies (P := Tryd.prog) (w8.alloc (.cells #[.string mac, .int .u8 1, .string ⟨#[]⟩] 42)) 37 37 w8.heap.size 42 i0 (.agg #[.string ⟨#[]⟩, .int .u8 0, .string ⟨#[]⟩]) 3 40 gasKindM hi hz0 hz1 hz2 rfl (by decide)
                  (.slice (some ⟨w8.heap.size, 0, none⟩) 1 1) 1 (in3 (macA mac)) ⟨rfl, .inr ⟨w8.heap.size, 1, #[.string mac, .int .u8 1, .string ⟨#[]⟩], rfl, Nat.le_refl _, heap_new w8 _, Nat.le_refl _, by unfold maxLen; decide, rfl, rfl⟩⟩
                  ⟨b1, o1, none⟩ k c1 ((List.range k).flatMap fun i => in3 (g1 i)) (in3_len k g1) (gas_news HGAS.out) (in3_one k g1) (by omega) (by unfold maxLen; omega) (by omega) (by rw [heap_new_size]; omega) _ rfl
                have HRW9 : Hid (∀ i, i < 1 + k → ∀ t, t < 3 → w9.cell? ⟨g9, i * 3 + t, none⟩ = (in3 (ahead mac g1 i))[t]?) := Lib.hid fun i hi t ht => by
                  have hlt : t < (in3 (ahead mac g1 i)).length := ht
                  have h1 : (in3 (macA mac) ++ ((List.range k).flatMap fun i => in3 (g1 i)))[i * 3 + t]? = some (in3 (ahead mac g1 i))[t] := by rw [ahead_rows, in3_at _ _ _ _ hi ht, List.getElem?_eq_getElem hlt]
                  have hc := hown9.cells (g := g9) rfl (i * 3 + t) _ h1
                  have hadd : (⟨g9, 0, none⟩ : Addr).add (i * 3 + t) = ⟨g9, i * 3 + t, none⟩ := by unfold Addr.add; split <;> simp_all
                  rw [hadd] at hc
                  rw [hc, List.getElem?_eq_getElem hlt]
                have B89 : Hid (Below w8.heap.size w8 w9) := Lib.hid (((Below.refl _ _).alloc (Nat.le_refl _) _).grown hg9 (by rw [heap_new_size]; omega) (fun q e => by simp only [Value.ownBlock, Option.some.injEq] at e; omega))
                have B9 : Hid (Below w.heap.size w w9) := Lib.hid (B8.out.trans (B89.out.mono B8.out.size))
                have HROW9 : Hid (∀ i, i < k + 1 → ∀ t, t < 3 → w9.cell? ⟨g, i * 3 + t, none⟩ = (out3 (l.getD i zA))[t]?) := Lib.hid fun i hi t ht => (B89.out.cell (p := ⟨g, i * 3 + t, none⟩) HGW.out).trans (HROW.out i hi t ht)
                have HG9 : Hid (g < w9.heap.size ∧ g9 < w9.heap.size) := Lib.hid ⟨Nat.lt_of_lt_of_le HGW.out B89.out.size, hlt9⟩
                clear hown9 hg9 hlt9 HROW HGAS
                go_wp2_with (at_builtin; refine wpList_app_runT _ 37 rfl (.tmp 168) (.tmp 169) rfl _ _ ?x1 ?x2 _ _ hr9 ?_; (case x1 => rfl); (case x2 => rfl))
                clear hr9
                go_upto_region 25 with (fail)
                go_loopw [172] (fun iv wx => ∃ i : Nat, i ≤ 1 + k ∧ iv = .int .i64 (i : Nat) ∧ Below w9.heap.size w9 wx) (fun iv _ => 1 + k - (intOf iv).toNat)
                case atStart => exact ⟨0, Nat.zero_le _, rfl, Below.refl _ _⟩
                case round =>
                  obtain ⟨i, hi, rfl, hb⟩ := hrel
                  have BI := Lib.hid hb; clear hb
                  by_cases hik : i < 1 + k
                  · have hikI : (i : Int) < 1 + (k : Int) := by omega
                    have i1 : (0 : Int) ≤ (i : Int) := by omega
                    have HGA := Lib.hid (ahead_good HW.out HARE.out.2.2.1 i hik)
                    have HHI := Lib.hid (HHAS.out i hik)
                    have hrow : ∀ t, t < 3 → wr.cell? ⟨g9, i * 3 + t, none⟩ = (in3 (ahead mac g1 i))[t]? := fun t ht => (BI.out.cell (p := ⟨g9, i * 3 + t, none⟩) HG9.out.2).trans (HRW9.out i hik t ht)
                    generalize ahead mac g1 i = a at hrow HGA HHI
                    obtain ⟨a1, a2, a3⟩ := a
                    have k0 : wr.cell? ⟨g9, i * 3, none⟩ = some (.string a1) := hrow 0 (by decide)
                    have k1 : wr.cell? ⟨g9, i * 3 + 1, none⟩ = some (.int .u8 (a2 : Nat)) := hrow 1 (by decide)
                    have k2 : wr.cell? ⟨g9, i * 3 + 2, none⟩ = some (.string a3) := hrow 2 (by decide)
                    have hall : ∀ t v, (#[Value.string a1, .int .u8 (a2 : Nat), .string a3] : Array Value)[t]? = some v → (wr.alloc (.cells #[.string a1, .int .u8 (a2 : Nat), .string a3] 42)).cell? ⟨wr.heap.size, t, none⟩ = some v := fun t v h => (World.cell?_alloc_mark wr #[.string a1, .int .u8 (a2 : Nat), .string a3] 42 (0, 0) t).trans h
                    have X := Lib.hid (And.intro (hall 0 _ rfl) (And.intro (hall 1 _ rfl) (hall 2 _ rfl)))
                    have BA : Hid (Below w9.heap.size w9 (wr.alloc (.cells #[.string a1, .int .u8 (a2 : Nat), .string a3] 42))) := Lib.hid (BI.out.alloc BI.out.size _)
                    have HXL : Hid (wr.heap.size < (wr.alloc (.cells #[.string a1, .int .u8 (a2 : Nat), .string a3] 42)).heap.size) := Lib.hid (by rw [heap_new_size]; exact Nat.lt_succ_self _)
                    clear hall hrow
                    go_upto_region 29 with (fail)
                    clear k0 k1 k2
                    generalize wr.alloc (.cells #[.string a1, .int .u8 (a2 : Nat), .string a3] 42) = wj at *
                    generalize wr.heap.size = xa at *
                    go_loopw [27, 178] (fun fv jv wx => ∃ (q : Nat) (F : Bool), q ≤ k + 1 ∧ fv = .bool F ∧ jv = .int .i64 (q : Nat) ∧ ((∃ r, r < q ∧ l.getD r zA = readOf (a1, a2, a3)) → F = true) ∧ Below wj.heap.size wj wx) (fun _ jv _ => k + 1 - (intOf jv).toNat)
                    case atStart => exact ⟨0, false, Nat.zero_le _, rfl, rfl, fun ⟨r, h, _⟩ => absurd h (Nat.not_lt_zero _), Below.refl _ _⟩
                    case round =>
                      obtain ⟨q, F, hq, rfl, rfl, hF, hb⟩ := hrel
                      have BJ := Lib.hid hb; have HF := Lib.hid hF
                      clear hb hF
                      by_cases hqk : q < k + 1
                      · have hqI : (q : Int) < (k : Int) + 1 := by omega
                        have j1 : (0 : Int) ≤ (q : Int) := by omega
                        have B9J : Hid (Below w9.heap.size w9 wr) := Lib.hid (BA.out.trans (BJ.out.mono BA.out.size))
                        have hrow : ∀ t, t < 3 → wr.cell? ⟨g, q * 3 + t, none⟩ = (out3 (l.getD q zA))[t]? := fun t ht => (B9J.out.cell (p := ⟨g, q * 3 + t, none⟩) HG9.out.1).trans (HROW9.out q hqk t ht)
                        have HEQ : Hid (l.getD q zA = readOf (a1, a2, a3) → (l.getD q zA).1 = a1 ∧ stN (l.getD q zA).2.1 = a2 ∧ (a2 = 3 → (l.getD q zA).2.2 = a3)) := Lib.hid fun e => by
                          rw [e]
                          exact ⟨rfl, readOf_st HGA.out, fun h => by unfold readOf; rw [if_pos h]⟩
                        have HNX : Hid (∀ F2 : Bool, (F2 = false → F = false ∧ l.getD q zA ≠ readOf (a1, a2, a3)) → (∃ r, r < q + 1 ∧ l.getD r zA = readOf (a1, a2, a3)) → F2 = true) := Lib.hid fun F2 h ⟨r, hr, e⟩ => by
                          cases F2 with
                          | true => rfl
                          | false =>
                            obtain ⟨h1, h2⟩ := h rfl
                            by_cases er : r = q
                            · rw [er] at e; exact absurd e h2
                            · have := HF.out ⟨r, by omega, e⟩
                              rw [h1] at this; exact this
                        have HA2 : Hid (a2 ≤ 3) := Lib.hid HGA.out.2.1
                        generalize l.getD q zA = x at hrow HEQ HNX
                        obtain ⟨x1, x2, x3⟩ := x
                        dsimp only at HEQ
                        have k0 : wr.cell? ⟨g, q * 3, none⟩ = some (.string x1) := hrow 0 (by decide)
                        have k1 : wr.cell? ⟨g, q * 3 + 1, none⟩ = some (.string x3) := hrow 1 (by decide)
                        have k2 : wr.cell? ⟨g, q * 3 + 2, none⟩ = some (.int .i64 (stN x2 : Nat)) := hrow 2 (by decide)
                        have hall : ∀ t v, (#[Value.string x1, .string x3, .int .i64 (stN x2 : Nat)] : Array Value)[t]? = some v → (wr.alloc (.cells #[.string x1, .string x3, .int .i64 (stN x2 : Nat)] 48)).cell? ⟨wr.heap.size, t, none⟩ = some v := fun t v h => (World.cell?_alloc_mark wr #[.string x1, .string x3, .int .i64 (stN x2 : Nat)] 48 (0, 0) t).trans h
                        have Y := Lib.hid (And.intro (hall 0 _ rfl) (And.intro (hall 1 _ rfl) (hall 2 _ rfl)))
                        have BX : Hid (Below wj.heap.size wj (wr.alloc (.cells #[.string x1, .string x3, .int .i64 (stN x2 : Nat)] 48))) := Lib.hid (BJ.out.alloc BJ.out.size _)
                        clear hall hrow
                        go_upto_region 31 with (fail)
                        clear k0 k1 k2
                        obtain ⟨y0, y1, y2⟩ := Y.out
                        generalize wr.alloc (.cells #[.string x1, .string x3, .int .i64 (stN x2 : Nat)] 48) = wk at *
                        generalize wr.heap.size = xb at *
                        have x0' := (BX.out.cell (p := ⟨xa, 0, none⟩) HXL.out).trans X.out.1
                        have x1' := (BX.out.cell (p := ⟨xa, 1, none⟩) HXL.out).trans X.out.2.1
                        have x2' := (BX.out.cell (p := ⟨xa, 2, none⟩) HXL.out).trans X.out.2.2
                        have t5 : IntKind.i64.wrap (a2 : Int) = (a2 : Int) := by rw [IntKind.wrap_i64]; have := HA2.out; omega
                        cases F with
                        | true =>
                          go_wp2
                          go_roundw
                          case rel => exact ⟨q + 1, true, by omega, rfl, by go_num, fun _ => rfl, BX.out⟩
                          case measure => simp [intOf]; omega
                        | false =>
                        by_cases e1 : x1 = a1
                        · have t1 : (x1.toList == a1.toList) = true := by rw [e1]; exact beq_self_eq_true _
                          by_cases e2 : stN x2 = a2
                          · have t2 : ((stN x2 : Int) == (a2 : Int)) = true := by rw [e2]; exact beq_self_eq_true _
                            clear e1
                            generalize stN x2 = sx at *
                            clear e2
                            by_cases e3 : a2 = 3
                            · have t3 : ((a2 : Int) != 3) = false := by rw [e3]; rfl
                              by_cases e4 : x3 = a3
                              · have t4 : (x3.toList == a3.toList) = true := by rw [e4]; exact beq_self_eq_true _
                                clear e4 e3
                                go_wp2
                                go_roundw
                                case rel => exact ⟨q + 1, true, by omega, rfl, by go_num, fun _ => rfl, BX.out⟩
                                case measure => simp [intOf]; omega
                              · have t4 : (x3.toList == a3.toList) = false := by
                                  rw [beq_eq_false_iff_ne]
                                  exact fun e => e4 (toList_inj e)
                                have HN4 : Hid ((x1, x2, x3) ≠ readOf (a1, a2, a3)) := Lib.hid fun e => e4 ((HEQ.out e).2.2 e3)
                                clear e4 e3
                                go_wp2
                                go_roundw
                                case rel => exact ⟨q + 1, false, by omega, rfl, by go_num, HNX.out false fun _ => ⟨rfl, HN4.out⟩, BX.out⟩
                                case measure => simp [intOf]; omega
                            · have t3 : ((a2 : Int) != 3) = true := by simp; omega
                              have t3' : ¬ (a2 : Int) = 3 := by omega
                              have t3'' : ¬ a2 = 3 := e3
                              go_wp2
                              go_roundw
                              case rel => exact ⟨q + 1, true, by omega, rfl, by go_num, fun _ => rfl, BX.out⟩
                              case measure => simp [intOf]; omega
                          · have t2 : ((stN x2 : Int) == (a2 : Int)) = false := beq_eq_false_iff_ne.mpr (by omega)
                            have HN4 : Hid ((x1, x2, x3) ≠ readOf (a1, a2, a3)) := Lib.hid fun e => e2 (HEQ.out e).2.1
                            clear e1
                            generalize stN x2 = sx at *
                            go_wp2
                            go_roundw
                            case rel => exact ⟨q + 1, false, by omega, rfl, by go_num, HNX.out false fun _ => ⟨rfl, HN4.out⟩, BX.out⟩
                            case measure => simp [intOf]; omega
                        · have t1 : (x1.toList == a1.toList) = false := by
                            rw [beq_eq_false_iff_ne]
                            exact fun e => e1 (toList_inj e)
                          have HN4 : Hid ((x1, x2, x3) ≠ readOf (a1, a2, a3)) := Lib.hid fun e => e1 (HEQ.out e).1
                          clear e1
                          go_wp2
                          go_roundw
                          case rel => exact ⟨q + 1, false, by omega, rfl, by go_num, HNX.out false fun _ => ⟨rfl, HN4.out⟩, BX.out⟩
                          case measure => simp [intOf]; omega
                      · obtain rfl : q = k + 1 := by omega
                        have hFt : F = true := HF.out HHI.out
                        subst hFt
                        have hqI : ¬ ((k : Int) + 1) < (k : Int) + 1 := by omega
                        go_wp2
                        go_roundw
                        case rel => exact ⟨i + 1, by omega, by go_num, BA.out.trans (BJ.out.mono BA.out.size)⟩
                        case measure => simp [intOf]; omega
                  · obtain rfl : i = 1 + k := by omega
                    have hiI : ¬ (1 + (k : Int)) < 1 + (k : Int) := by omega
                    have hkw : IntKind.i64.wrap ((k : Int) + 1) = (k : Int) + 1 := by rw [IntKind.wrap_i64]; omega
                    have hkk : (((k : Int) + 1) == ((k : Int) + 1)) = true := beq_self_eq_true _
                    go_wp2_with fail
                    with_reducible refine (awake_any _).mono ?_
                    rintro e w10 ⟨rfl, hb⟩
                    have B10 := Lib.hid (B9.out.trans ((BI.out.trans (hb.mono BI.out.size)).mono B9.out.size)); clear hb
                    go_wp2
                    go_ret
                    exact ⟨rfl, B10.out⟩
end Go.Proofs.YteipeagdflcjjaaDoor.Am
