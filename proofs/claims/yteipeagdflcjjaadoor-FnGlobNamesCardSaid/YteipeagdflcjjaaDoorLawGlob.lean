/- FnGlobNames: the walk. -/
import Derived.Test.YteipeagdflcjjaaDoorIxJ
import Derived.Test.YteipeagdflcjjaaDoorGlobTo2
import Derived.Test.YteipeagdflcjjaaDoorDot
namespace Go.Proofs.YteipeagdflcjjaaDoor.Ix
open Go.RowKit
set_option linter.unusedSimpArgs false
set_option linter.unusedVariables false

/-- All parts of a pattern are good. -/
def PatGood (m : Nat) (g : Nat → ByteArray) : Prop := 1 ≤ m ∧ m ≤ 3 ∧ ∀ i, i < m → GoodPart (g i)
theorem pat_toks (g : Nat → ByteArray) : ∀ k, (∀ i, i < k → GoodPart (g i)) → ∃ T, gt g false k = texts T ∧ (∀ t ∈ T, gd t) ∧ (texts T).length ≤ k * 11 := by
  intro k
  induction k with
  | zero => intro _; exact ⟨[], rfl, fun t h => (by cases h), Nat.le_refl _⟩
  | succ k ih =>
    intro h
    obtain ⟨T, h1, h2, h3⟩ := ih fun i hi => h i (by omega)
    obtain ⟨U, u1, u2, _, u4⟩ := h k (by omega)
    have hU : (texts U).length ≤ 10 := by rw [← u1, nb_length]; exact u4
    by_cases h0 : k = 0
    · refine ⟨T ++ U, ?_, ?_, ?_⟩
      · show gt g false k ++ (if k = 0 then [] else [47]) ++ nb (g k) = _
        rw [if_pos h0, List.append_nil, h1, u1, texts_append]
      · intro t ht
        rcases List.mem_append.mp ht with h | h
        · exact h2 t h
        · exact .inl (u2 t h)
      · rw [texts_append, List.length_append]; omega
    · refine ⟨T ++ .lit 47 :: U, ?_, ?_, ?_⟩
      · show gt g false k ++ (if k = 0 then [] else [47]) ++ nb (g k) = _
        rw [if_neg h0, h1, u1, texts_append, texts_cons, List.append_assoc]; rfl
      · intro t ht
        rcases List.mem_append.mp ht with h | h
        · exact h2 t h
        · rcases List.mem_cons.mp h with rfl | h
          · exact .inr rfl
          · exact .inl (u2 t h)
      · rw [texts_append, texts_cons, List.length_append, List.length_append]
        show _ + (1 + _) ≤ _
        omega

/-- A name of a file. -/
structure NameT (s : ByteArray) : Prop where
  asc : Asc s
  small : s.size ≤ 100

/-- What the reference says of the names, at this pattern. -/
structure Ref (m : Nat) (g : Nat → ByteArray) (G : ByteArray → Bool) : Prop where
  calls : ∀ pb s : ByteArray, nb pb = gt g false m → pb.size ≤ 4611686018427387904 → s.size ≤ 100 → ∀ W, Calls Tryd.prog 15 #[.string pb, .string s] W (QB (G s) W)
  good : PatGood m g → ∀ pb s : ByteArray, nb pb = gt g false m → NameT s → ∀ W, Calls Tryd.prog 53 #[.string pb, .string s] W (MPost (G s) W)
open Classical in
theorem ref_any (m : Nat) (g : Nat → ByteArray) : ∃ G, Ref m g G := by
  by_cases hg : PatGood m g
  · obtain ⟨T, h1, h2, h3⟩ := pat_toks g m hg.2.2
    have hm := hg.2.1
    have hsz : ∀ pb : ByteArray, nb pb = gt g false m → pb.size ≤ 1000 := fun pb h => by rw [← nb_length, h, h1]; omega
    refine ⟨fun s => gn hasR T (nb s), fun pb s hp _ hs W => ?_, fun _ pb s hp hs W => ?_⟩
    · exact globName_any (pb.size + s.size + 1) T pb s W (by omega) (hp.trans h1) (fun t ht => gd_gR (h2 t ht)) (hsz pb hp) (by omega)
    · exact match_any T pb s W ⟨hp.trans h1, h2, hsz pb hp, hs.asc, by have := hs.small; omega, rfl⟩
  · by_cases hx : ∃ pb : ByteArray, nb pb = gt g false m ∧ pb.size ≤ 4611686018427387904
    · obtain ⟨pb, h1, h2⟩ := hx
      have hall : ∀ s : ByteArray, ∃ b, s.size ≤ 100 → ∀ W, Calls Tryd.prog 15 #[.string pb, .string s] W (QB b W) := fun s => by
        by_cases hs : s.size ≤ 100
        · obtain ⟨b, hb⟩ := globName_tot (pb.size + s.size + 1) pb s (by omega) h2 (by omega)
          exact ⟨b, fun _ => hb⟩
        · exact ⟨false, fun h => absurd h hs⟩
      refine ⟨fun s => Classical.choose (hall s), fun pb' s hp _ hs W => ?_, fun h => absurd h hg⟩
      obtain rfl : pb' = pb := nb_inj (hp.trans h1.symm)
      exact Classical.choose_spec (hall s) hs W
    · exact ⟨fun _ => false, fun pb s hp h2 _ => absurd ⟨pb, hp, h2⟩ hx, fun h => absurd h hg⟩

/-- A path of three parts, joined, is a name. -/
theorem name_of {n : Nat} {f : Nat → ByteArray} {t : ByteArray} (hn : n ≤ 3) (hf : ∀ i, i < n → NameOk (f i)) (ht : nb t = gt f false n) (hz : t.size ≤ 100) : NameT t := by
  refine ⟨asc_of fun c hc => ?_, hz⟩
  rw [ht] at hc
  clear ht hz hn
  induction n with
  | zero => simp [gt] at hc
  | succ n ih =>
    have hc : c ∈ gt f false n ++ (if n = 0 then [] else [47]) ++ nb (f n) := hc
    rcases List.mem_append.mp hc with hc | hc
    · rcases List.mem_append.mp hc with hc | hc
      · exact ih (fun i hi => hf i (by omega)) hc
      · split at hc
        · cases hc
        · rw [List.mem_singleton] at hc; omega
    · exact ((hf n (by omega)).nm.all c hc).1

theorem hits_all (G : ByteArray → Bool) (L : List ByteArray) : (hits L.length (fun i => L.getD i ⟨#[]⟩) G).map (fun i => L.getD i ⟨#[]⟩) = L.filter G := by
  have key : ∀ k, k ≤ L.length → (hits k (fun i => L.getD i ⟨#[]⟩) G).map (fun i => L.getD i ⟨#[]⟩) = (L.take k).filter G := by
    intro k
    induction k with
    | zero => intro _; rfl
    | succ k ih =>
      intro h
      have hk : L.getD k ⟨#[]⟩ = L[k] := by rw [List.getD_eq_getElem?_getD, List.getElem?_eq_getElem (by omega)]; rfl
      have ht : L.take (k + 1) = L.take k ++ [L[k]] := by rw [List.take_add_one, List.getElem?_eq_getElem (by omega)]; rfl
      rw [ht, List.filter_append, ← ih (by omega)]
      by_cases hG : G (L[k]) = true
      · rw [hits_hit (by rw [hk]; exact hG), List.map_append]
        simp [hG, hk, List.getElem?_eq_getElem (show k < L.length by omega)]
      · have hG' : G (L[k]) = false := by simpa using hG
        rw [hits_miss (by rw [hk]; exact hG')]
        simp [hG']
  rw [key L.length (Nat.le_refl _), List.take_length]
theorem Own.len {w : World} {B : Nat} {v : Value} {L : List ByteArray} (h : Own w B v L) : ∃ A c, v = .slice A L.length c := by
  obtain ⟨A, c, h, _⟩ := h.strs
  exact ⟨A, c, h⟩
def Apart (v1 v2 : Value) : Prop := ∀ q, v1.ownBlock = some q → v2.ownBlock ≠ some q
theorem Apart.kept {v1 v2 : Value} (h : Apart v1 v2) : v2.ownBlock = none ∨ v2.ownBlock ≠ v1.ownBlock := by
  cases h1 : v2.ownBlock with
  | none => exact .inl rfl
  | some q => exact .inr fun e => h q e.symm h1
theorem Apart.symm {v1 v2 : Value} (h : Apart v1 v2) : Apart v2 v1 := fun q h2 h1 => h q h1 h2
theorem own_drew {w w' : World} {B : Nat} {v : Value} {L : List ByteArray} {m : Nat} (h : Own w B v L) (e : w' = w.drewN m) : Own w' B v L := by rw [e]; exact h
theorem own_kept {w w' : World} {B : Nat} {v : Value} {L : List ByteArray} {row : Option Nat} (h : Own w B v L) (hg : w.grownBy w' row) (hne : v.ownBlock = none ∨ v.ownBlock ≠ row) : Own w' B v L := World.ownsRow.kept h hg hne
theorem own_alloc {w : World} {B : Nat} {v : Value} {L : List ByteArray} (h : Own w B v L) (o : Obj) : Own (w.alloc o) B v L := World.ownsRow.alloc h o
theorem apart_grown {w : World} {B H g n cap : Nat} {v1 v2 : Value} {L : List ByteArray} (h : Apart v1 v2) (h2 : Own w B v2 L) (hH : w.heap.size ≤ H) (hat : v1.ownBlock = some g ∨ g = H) : Apart (.slice (some ⟨g, 0, none⟩) n cap) v2 := by
  intro q hq e
  have hq : some g = some q := hq
  injection hq with hq
  subst hq
  rcases hat with hat | hat
  · exact h g hat e
  · have := (h2.lt g e).2
    omega

set_option maxRecDepth 100000 in
set_option maxHeartbeats 8000000 in
theorem lawGlob_any (A1 A2 : Option Addr) (n m c1 c2 : Nat) (N : Nat → Nat) (F : Nat → Nat → ByteArray) (g : Nat → ByteArray) (w : World) (hn : n ≤ maxLen) (hm : m ≤ maxLen) (h1 : Paths w A1 n N F) (h2 : Strs w A2 m g) :
    Calls Tryd.prog 3 #[.slice A1 n c1, .slice A2 m c2] w fun e w' => e = .returned (.bool true) ∧ Below w.heap.size w w' := by
  have H1 := Lib.hid h1
  have H2 := Lib.hid h2
  clear h1 h2
  obtain ⟨i0, hi, hz0, hz1, hz2⟩ := info_parts strInfo
  go_enter Tryd.func3, Tryd.ntmps3
  go_wp2_with fail
  with_reducible refine (fits18_any _ _ _ N F _ hn H1.out).mono ?_
  rintro e w' ⟨r1, rfl, hr1, rfl⟩
  cases r1 with
  | false =>
    clear hr1
    go_wp2
    go_ret
    exact ⟨rfl, Below.refl _ _⟩
  | true =>
  obtain ⟨hn2, hfs⟩ := hr1 rfl
  have HFS := Lib.hid hfs
  clear hr1 hfs
  go_wp2_with fail
  with_reducible refine (fits3_any _ _ _ g _ hm H2.out).mono ?_
  rintro e w' ⟨r2, rfl, hr2, rfl⟩
  cases r2 with
  | false =>
    clear hr2
    go_wp2
    go_ret
    exact ⟨rfl, Below.refl _ _⟩
  | true =>
  obtain ⟨hm2, hgs⟩ := hr2 rfl
  have HGS := Lib.hid hgs
  clear hr2 hgs hn hm
  obtain ⟨G, href⟩ := ref_any m g
  have HREF := Lib.hid href; clear href
  go_wp2
  go_loopw [5, 6, 26] (fun ns ws i wr => ∃ NL WL : List ByteArray, NL.length ≤ n ∧ i = .int .i64 (NL.length : Nat) ∧ (∀ s ∈ NL, NameT s) ∧ WL = NL.filter G ∧ Own wr w.heap.size ns NL ∧ Own wr w.heap.size ws WL ∧ Apart ns ws ∧ Below w.heap.size w wr) (fun _ _ i _ => n - (intOf i).toNat)
  case atStart => exact ⟨[], [], Nat.zero_le _, rfl, fun s h => (by cases h), rfl, Own.nil _ _, Own.nil _ _, fun q h => (by cases h), Below.refl _ _⟩
  case round =>
    obtain ⟨NL, WL, hk, rfl, hnm, hwl, hns, hws, hap, hbel⟩ := hrel
    have HNM := Lib.hid hnm; have HWL := Lib.hid hwl; have HNS := Lib.hid hns; have HWS := Lib.hid hws; have HAP := Lib.hid hap; have HB := Lib.hid hbel
    have HWLL : Hid (WL.length ≤ NL.length) := Lib.hid (by rw [hwl]; exact List.length_filter_le _ _)
    clear hnm hwl hns hws hap hbel
    by_cases hlt : NL.length < n
    · obtain ⟨b, off, A', c', rfl, hb, hc, hN, hS⟩ := (H1.out.below HB.out) NL.length hlt
      obtain ⟨hNb, hFb⟩ := HFS.out NL.length hlt
      have HS := Lib.hid hS; have HFB := Lib.hid hFb
      generalize F NL.length = fk at HS HFB
      generalize hNk : N NL.length = nk at *
      clear hS hFb hN hb
      go_wp2_with fail
      with_reducible refine (isGlobPath_any A' nk c' fk _ hNb HS.out HFB.out).mono ?_
      rintro e w3 ⟨B3, rfl, hB3, rfl⟩
      cases B3 with
      | false =>
        clear hB3
        go_wp2_with fail
        with_reducible refine (awake_any _).mono ?_
        rintro e wz ⟨rfl, hb⟩
        have HBZ := Lib.hid (HB.out.trans (hb.mono HB.out.size)); clear hb
        go_wp2
        go_ret
        exact ⟨rfl, HBZ.out⟩
      | true =>
      obtain ⟨hn1, hn5, hok⟩ := hB3 rfl
      have HOK := Lib.hid hok
      clear hB3 hok
      by_cases hn3 : 3 < nk
      · have hn3' : (3 : Int) < nk := by omega
        go_wp2_with fail
        with_reducible refine (awake_any _).mono ?_
        rintro e wz ⟨rfl, hb⟩
        have HBZ := Lib.hid (HB.out.trans (hb.mono HB.out.size)); clear hb
        go_wp2
        go_ret
        exact ⟨rfl, HBZ.out⟩
      have hn3' : ¬ (3 : Int) < nk := by omega
      go_wp2_with fail
      with_reducible refine (joined_any A' nk c' 6 fk _ hNb (by decide) (fun i hi => (HOK.out i hi).six) HS.out).mono ?_
      rintro e w3 ⟨t, rfl, ht, htz, rfl⟩
      have HTN : Hid (NameT t) := Lib.hid (name_of (by omega) HOK.out ht (by omega))
      clear ht htz hc hn3 hn3' hn1 hn5 HOK HS HFB hNb hNk
      obtain ⟨An, cn, hns, hnl, hnstr⟩ := HNS.out.strs
      have HSTR := Lib.hid hnstr; have HNSE := Lib.hid hns
      have HNS2 := HNS.out
      rw [hns] at HNS2
      have HNS := Lib.hid HNS2; clear HNS2
      have HAP2 := HAP.out
      rw [hns] at HAP2
      have HAP := Lib.hid HAP2; clear HAP2 hnstr
      subst hns
      clear HNSE
      generalize hNLn : NL.length = nl at *
      have HNLN := Lib.hid hNLn; clear hNLn
      go_wp2
      go_loop [43] (fun i => ∃ q : Nat, q ≤ nl ∧ i = .int .i64 q) (fun i => nl - (intOf i).toNat)
      case atStart => exact ⟨0, Nat.zero_le _, rfl⟩
      case round =>
        obtain ⟨q, hq, rfl⟩ := hrel
        by_cases hql : q < nl
        · obtain ⟨bn, on, rfl, _, hcq⟩ := HSTR.out.at q hql
          generalize NL.getD q ⟨#[]⟩ = x at hcq
          by_cases hs : (x.toList == t.toList) = true
          · go_wp2_with fail
            with_reducible refine (awake_any _).mono ?_
            rintro e wz ⟨rfl, hb⟩
            have HBZ := Lib.hid (HB.out.trans (hb.mono HB.out.size)); clear hb
            go_wp2
            go_ret
            exact ⟨rfl, HBZ.out⟩
          · have hs' : (x.toList == t.toList) = false := by simpa using hs
            clear hs
            go_wp2
            go_round
            case rel => exact ⟨q + 1, by omega, by go_num⟩
            case measure => simp [intOf]; omega
        · go_upto_region 16 with (fail)
          go_wp2_with (at_builtin; refine wpList_append_lies _ rfl (.tmp 52) (.tmp 54) 23 rfl w.heap.size 9 i0 (.string ⟨#[]⟩) 1 16 strsKind hi hz0 hz1 hz2 rfl (by decide) _ nl (NL.map Value.string) rfl (by have := own_alloc HNS.out (.cells #[.string t] 9); unfold Own at this; rw [HNLN.out] at this; exact this) ⟨wr.heap.size, 0, none⟩ 1 1 [.string t] rfl rfl (news_str _ _) (one_str _) (by decide) ?c3 ?c4 ?c5 _ rfl ?_)
          case c3 => unfold maxLen; omega
          case c4 => omega
          case c5 => have := HB.out.size; first | (rw [heap_new_size]; omega) | omega
          intro gg cap2 w4 hown4 hgrow hat hlt4
          have RB : Below w.heap.size w w4 := (HB.out.alloc HB.out.size _).grown hgrow (by have := HB.out.size; rw [heap_new_size]; omega) (fun q e => (HNS.out.lt q e).1)
          have HN4 : Hid (Own w4 w.heap.size (.slice (some ⟨gg, 0, none⟩) (nl + 1) cap2) (NL ++ [t])) := Lib.hid (by
            have := @Own.more w4 w.heap.size gg cap2 NL t (by rw [HNLN.out]; exact hown4)
            rwa [HNLN.out] at this)
          have HW4 : Hid (Own w4 w.heap.size u6 WL) := Lib.hid (own_kept (own_alloc HWS.out _) hgrow HAP.out.kept)
          have HA4 : Hid (Apart (.slice (some ⟨gg, 0, none⟩) (nl + 1) cap2) u6) := Lib.hid (apart_grown (H := wr.heap.size + 1) HAP.out (own_alloc HWS.out (.cells #[.string t] 9)) (by rw [heap_new_size]; exact Nat.le_refl _) hat)
          have HB4 := Lib.hid RB
          have HFIL : Hid ((NL ++ [t]).filter G = WL ++ (if G t = true then [t] else [])) := Lib.hid (by rw [List.filter_append, HWL.out]; cases hG : G t <;> simp [hG])
          have HNM4 : Hid (∀ s ∈ NL ++ [t], NameT s) := Lib.hid (fun s hs => by
            rcases List.mem_append.mp hs with h | h
            · exact HNM.out s h
            · rw [List.mem_singleton] at h; subst h; exact HTN.out)
          have HLN4 : Hid ((NL ++ [t]).length = nl + 1) := Lib.hid (by rw [List.length_append, HNLN.out]; rfl)
          clear RB hown4 hgrow hat hlt4 HNS HAP HWS HSTR HB
          go_wp2_with fail
          with_reducible refine (joined_any A2 m c2 2147483647 g _ hm2 (by decide) HGS.out (H2.out.below HB4.out)).mono ?_
          rintro e w3 ⟨pb, rfl, hpb, hpz, rfl⟩
          have hpz2 : pb.size ≤ 4611686018427387904 := Nat.le_trans hpz (Nat.le_trans (Nat.mul_le_mul hm2 (Nat.le_refl 2147483648)) (by decide))
          have HPB := Lib.hid hpb; have HPZ := Lib.hid hpz2
          clear hpb hpz hpz2
          go_wp2_with fail
          with_reducible refine (HREF.out.calls pb t HPB.out HPZ.out HTN.out.small _).mono ?_
          rintro e w5 ⟨rfl, m5, hw5⟩
          have HN5 := Lib.hid (own_drew HN4.out hw5); have HW5 := Lib.hid (own_drew HW4.out hw5)
          have HB5 : Hid (Below w.heap.size w w5) := Lib.hid (by rw [hw5]; exact below_drewN HB4.out _)
          clear hw5 HN4 HW4 HB4
          cases hG : G t with
          | false =>
            have HF2 : Hid (WL = (NL ++ [t]).filter G) := Lib.hid (by rw [HFIL.out, hG]; simp)
            clear hG
            go_wp2
            go_roundw
            case rel => exact ⟨NL ++ [t], WL, by rw [HLN4.out]; omega, by rw [HLN4.out]; go_num, HNM4.out, HF2.out, HN5.out, HW5.out, HA4.out, HB5.out⟩
            case measure => have := HNLN.out; simp [intOf]; omega
          | true =>
            have HF2 : Hid (WL ++ [t] = (NL ++ [t]).filter G) := Lib.hid (by rw [HFIL.out, hG]; simp)
            clear hG
            have hwll : WL.length ≤ nl := HNLN.out ▸ HWLL.out
            generalize hWLn : WL.length = wn at *
            have HWLN := Lib.hid hWLn; clear hWLn
            go_wp2_with (at_builtin; refine wpList_append_lies _ rfl (.tmp 60) (.tmp 62) 23 rfl w.heap.size 9 i0 (.string ⟨#[]⟩) 1 16 strsKind hi hz0 hz1 hz2 rfl (by decide) _ wn (WL.map Value.string) rfl (by have := own_alloc HW5.out (.cells #[.string t] 9); unfold Own at this; rw [HWLN.out] at this; exact this) ⟨w5.heap.size, 0, none⟩ 1 1 [.string t] rfl rfl (news_str _ _) (one_str _) (by decide) ?d3 ?d4 ?d5 _ rfl ?_)
            case d3 => unfold maxLen; omega
            case d4 => omega
            case d5 => have := HB5.out.size; first | (rw [heap_new_size]; omega) | omega
            intro g2 cap3 w6 hown6 hgrow hat hlt6
            have HB6 : Hid (Below w.heap.size w w6) := Lib.hid ((HB5.out.alloc HB5.out.size _).grown hgrow (by have := HB5.out.size; rw [heap_new_size]; omega) (fun q e => (HW5.out.lt q e).1))
            have HW6 : Hid (Own w6 w.heap.size (.slice (some ⟨g2, 0, none⟩) (wn + 1) cap3) (WL ++ [t])) := Lib.hid (by
              have := @Own.more w6 w.heap.size g2 cap3 WL t (by rw [HWLN.out]; exact hown6)
              rwa [HWLN.out] at this)
            have HN6 : Hid (Own w6 w.heap.size (.slice (some ⟨gg, 0, none⟩) (nl + 1) cap2) (NL ++ [t])) := Lib.hid (own_kept (own_alloc HN5.out _) hgrow HA4.out.symm.kept)
            have HA6 : Hid (Apart (.slice (some ⟨gg, 0, none⟩) (nl + 1) cap2) (.slice (some ⟨g2, 0, none⟩) (wn + 1) cap3)) := Lib.hid (apart_grown (H := w5.heap.size + 1) HA4.out.symm (own_alloc HN5.out (.cells #[.string t] 9)) (by rw [heap_new_size]; exact Nat.le_refl _) hat).symm
            clear hown6 hgrow hat hlt6 HN5 HW5 HB5 HA4
            go_wp2
            go_roundw
            case rel => exact ⟨NL ++ [t], WL ++ [t], by rw [HLN4.out]; omega, by rw [HLN4.out]; go_num, HNM4.out, HF2.out, HN6.out, HW6.out, HA6.out, HB6.out⟩
            case measure => have := HNLN.out; simp [intOf]; omega
    · have hNLn : NL.length = n := by omega
      clear hlt
      obtain ⟨An, cn, hns, hnl, hnstr⟩ := HNS.out.strs
      have HSTR := Lib.hid hnstr
      subst hns
      clear hnstr hnl HNS HAP
      obtain ⟨Aw, cw, hws, hwl2, hwstr⟩ := HWS.out.strs
      have HWSTR := Lib.hid hwstr
      subst hws
      clear hwstr HWS
      have hwle := HWLL.out
      rw [hNLn] at hwle
      generalize hWn : WL.length = wn at *
      have HWN := Lib.hid hWn; clear hWn HWLL
      have HNLN := Lib.hid hNLn
      rw [hNLn] at HSTR ⊢
      clear hNLn
      go_wp2
      go_loopw [67] (fun i wq => ∃ q : Nat, q ≤ m ∧ i = .int .i64 q ∧ (∀ j, j < q → GoodPart (g j)) ∧ Below wr.heap.size wr wq ∧ Below w.heap.size w wq) (fun i _ => m - (intOf i).toNat)
      case atStart => exact ⟨0, Nat.zero_le _, rfl, fun j h => absurd h (Nat.not_lt_zero _), Below.refl _ _, HB.out⟩
      case round =>
        obtain ⟨q, hq, rfl, hgood, hbr, hbw⟩ := hrel
        have HG := Lib.hid hgood; have HBR := Lib.hid hbr; have HBW := Lib.hid hbw
        clear hgood hbr hbw
        by_cases hql : q < m
        · obtain ⟨bg, og, rfl, _, hcg⟩ := (H2.out.below HBW.out).at q hql
          have hgz := HGS.out q hql
          have HGN : Hid (GoodPart (g q) → ∀ j, j < q + 1 → GoodPart (g j)) := Lib.hid fun h j hj => by
            by_cases e : j = q
            · subst e; exact h
            · exact HG.out j (by omega)
          generalize g q = p at hcg hgz HGN
          go_wp2_with fail
          with_reducible refine (isGlobPart_any p _ hgz).mono ?_
          rintro e w3 ⟨B3, rfl, hB3, hb3⟩
          have HBR3 := Lib.hid (HBR.out.trans (hb3.mono HBR.out.size)); have HBW3 := Lib.hid (HBW.out.trans (hb3.mono HBW.out.size))
          have HB3 := Lib.hid hB3
          clear hb3 hB3 hcg
          cases B3 with
          | false =>
            go_wp2_with fail
            with_reducible refine (awake_any _).mono ?_
            rintro e wz ⟨rfl, hb⟩
            have HBZ := Lib.hid (HBW3.out.trans (hb.mono HBW3.out.size)); clear hb
            go_wp2
            go_ret
            exact ⟨rfl, HBZ.out⟩
          | true =>
          have hq1 := beq_str p [42, 42]
          have hq2 := beq_str p [46]
          have hq3 := beq_str p [46, 46]
          have HNB : Hid ((nb p == ([42, 42] : List UInt8).map UInt8.toNat) = false → GoodPart p) := Lib.hid fun h => by
            rcases HB3.out rfl with h2 | h2
            · rw [h2] at h; exact absurd h (by decide)
            · exact h2
          generalize (nb p == ([42, 42] : List UInt8).map UInt8.toNat) = x1 at hq1 HNB
          generalize (nb p == ([46] : List UInt8).map UInt8.toNat) = x2 at hq2
          generalize (nb p == ([46, 46] : List UInt8).map UInt8.toNat) = x3 at hq3
          cases x1 with
          | true =>
            go_wp2_with fail
            with_reducible refine (awake_any _).mono ?_
            rintro e wz ⟨rfl, hb⟩
            have HBZ := Lib.hid (HBW3.out.trans (hb.mono HBW3.out.size)); clear hb
            go_wp2
            go_ret
            exact ⟨rfl, HBZ.out⟩
          | false =>
          have HGP := Lib.hid (HGN.out (HNB.out rfl))
          cases x2 with
          | true =>
            go_wp2_with fail
            with_reducible refine (awake_any _).mono ?_
            rintro e wz ⟨rfl, hb⟩
            have HBZ := Lib.hid (HBW3.out.trans (hb.mono HBW3.out.size)); clear hb
            go_wp2
            go_ret
            exact ⟨rfl, HBZ.out⟩
          | false =>
          cases x3 with
          | true =>
            go_wp2_with fail
            with_reducible refine (awake_any _).mono ?_
            rintro e wz ⟨rfl, hb⟩
            have HBZ := Lib.hid (HBW3.out.trans (hb.mono HBW3.out.size)); clear hb
            go_wp2
            go_ret
            exact ⟨rfl, HBZ.out⟩
          | false =>
          go_wp2
          go_roundw
          case rel => exact ⟨q + 1, by omega, by go_num, HGP.out, HBR3.out, HBW3.out⟩
          case measure => simp [intOf]; omega
        · obtain rfl : q = m := by omega
          by_cases h8 : 8 < n
          · have h8' : (8 : Int) < n := by omega
            go_wp2_with fail
            with_reducible refine (awake_any _).mono ?_
            rintro e wz ⟨rfl, hb⟩
            have HBZ := Lib.hid (HBW.out.trans (hb.mono HBW.out.size)); clear hb
            go_wp2
            go_ret
            exact ⟨rfl, HBZ.out⟩
          have h8' : ¬ (8 : Int) < n := by omega
          by_cases hm1 : q < 1
          · have hm1' : (q : Int) < 1 := by omega
            go_wp2_with fail
            with_reducible refine (awake_any _).mono ?_
            rintro e wz ⟨rfl, hb⟩
            have HBZ := Lib.hid (HBW.out.trans (hb.mono HBW.out.size)); clear hb
            go_wp2
            go_ret
            exact ⟨rfl, HBZ.out⟩
          have hm1' : ¬ (q : Int) < 1 := by omega
          by_cases hm3 : 3 < q
          · have hm3' : (3 : Int) < q := by omega
            go_wp2_with fail
            with_reducible refine (awake_any _).mono ?_
            rintro e wz ⟨rfl, hb⟩
            have HBZ := Lib.hid (HBW.out.trans (hb.mono HBW.out.size)); clear hb
            go_wp2
            go_ret
            exact ⟨rfl, HBZ.out⟩
          have hm3' : ¬ (3 : Int) < q := by omega
          have HPG : Hid (PatGood q g) := Lib.hid ⟨by omega, by omega, HG.out⟩
          have HSX : Hid (Strs wr An n (fun i => NL.getD i ⟨#[]⟩)) := Lib.hid (HSTR.out.below HBR.out)
          have HWX : Hid (Strs wr Aw wn (fun i => WL.getD i ⟨#[]⟩)) := Lib.hid (HWSTR.out.below HBR.out)
          go_upto_region 28 with (fail)
          go_wp2_with fail
          with_reducible refine (joined_any A2 q c2 2147483647 g _ hm2 (by decide) HGS.out (H2.out.below HBW.out)).mono ?_
          rintro e w3 ⟨pb, rfl, hpb, hpz, rfl⟩
          have HPB := Lib.hid hpb
          clear hpb hpz
          go_wp2_with fail
          with_reducible refine (globNames_any An n cn (fun i => NL.getD i ⟨#[]⟩) pb G _ (by omega) HSX.out (fun j hj => HREF.out.good HPG.out pb _ HPB.out (HNM.out _ (by
            rw [List.getD_eq_getElem?_getD, List.getElem?_eq_getElem (by rw [HNLN.out]; exact hj), Option.getD_some]; exact List.getElem_mem _)))).mono ?_
          rintro e w4 ⟨v, rfl, hv, hb4⟩
          have hv2 : Own w4 wr.heap.size v WL := by
            have h := hits_all G NL
            rw [HNLN.out] at h
            rw [h, ← HWL.out] at hv
            exact hv
          obtain ⟨Av, cv, hvs, _, hvstr⟩ := hv2.strs
          subst hvs
          rw [HWN.out] at hvstr
          have HVS := Lib.hid hvstr
          have HWY : Hid (Strs w4 Aw wn (fun i => WL.getD i ⟨#[]⟩)) := Lib.hid (HWX.out.below hb4)
          have HB4 : Hid (Below w.heap.size w w4) := Lib.hid (HBW.out.trans (hb4.mono HBW.out.size))
          clear hv hv2 hvstr hb4
          rw [HWN.out]
          have hwm : wn ≤ maxLen := by unfold maxLen; omega
          go_wp2_with fail
          with_reducible refine (lineSame_any Av Aw wn cv cw (fun i => WL.getD i ⟨#[]⟩) _ hwm HVS.out HWY.out).mono ?_
          rintro e w5 ⟨rfl, m5, hw5⟩
          have HB5 : Hid (Below w.heap.size w w5) := Lib.hid (by rw [hw5]; exact below_drewN HB4.out _)
          clear hw5
          go_wp2_with fail
          with_reducible refine (awake_any _).mono ?_
          rintro e wz ⟨rfl, hb⟩
          have HBZ := Lib.hid (HB5.out.trans (hb.mono HB5.out.size)); clear hb
          go_wp2
          go_ret
          exact ⟨rfl, HBZ.out⟩
end Go.Proofs.YteipeagdflcjjaaDoor.Ix
