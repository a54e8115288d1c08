/- Which parts are bad: words are not; points, disguises and strange bytes are. -/
import Derived.Test.YtdmkjfkdjhmpjaaDoorTree
import Derived.Test.YtdmkjfkdjhmpjaaDoorDisguise
namespace Go.Proofs.YtdmkjfkdjhmpjaaDoor
open Go.RowKit
set_option linter.unusedSimpArgs false
set_option linter.unusedVariables false

/-! ## Bytes and code points -/
/-- Either one byte below 128 and its own code point, or bytes from 128 on alone. -/
theorem decode_kinds (s : ByteArray) (i : Nat) : (bx s i < 128 ∧ Utf8.decode s i = (bx s i, 1)) ∨ (128 ≤ bx s i ∧ ∀ j, i ≤ j → j < i + (Utf8.decode s i).2 → 128 ≤ bx s j) := by
  by_cases h : bx s i < 128
  · left
    refine ⟨h, ?_⟩
    rw [decode_eq, if_pos h]
  · right
    refine ⟨by omega, fun j hj hj2 => ?_⟩
    rw [decode_eq, if_neg h] at hj2
    have e1 : j = i ∨ j = i + 1 ∨ j = i + 2 ∨ j = i + 3 ∨ i + 4 ≤ j := by omega
    repeat' split at hj2
    all_goals simp only [Bool.and_eq_true, decide_eq_true_eq, beq_iff_eq] at *
    all_goals rcases e1 with rfl | rfl | rfl | rfl | e1 <;> omega

theorem byte_in_runes (s : ByteArray) (c j : Nat) (hc : c < 128) (hj : j < s.size) (hb : bx s j = c) : ∀ B i, i ≤ j → s.size ≤ B + i → c ∈ runesN s B i := by
  intro B
  induction B with
  | zero => intro i h1 h2; omega
  | succ B ih =>
    intro i h1 h2
    unfold runesN
    rw [if_pos (by omega)]
    have hp := decode_pos s i
    rcases decode_kinds s i with ⟨h, hd⟩ | ⟨h, hd⟩
    · by_cases e : i = j
      · subst e
        rw [hd, hb]; simp
      · rw [hd]
        exact List.mem_cons_of_mem _ (ih (i + 1) (by omega) (by omega))
    · by_cases e : j < i + (Utf8.decode s i).2
      · have := hd j h1 e; omega
      · exact List.mem_cons_of_mem _ (ih _ (by omega) (by omega))

theorem ascii_runes (s : ByteArray) (h : ∀ j, j < s.size → bx s j < 128) : ∀ B i, s.size ≤ B + i → runesN s B i = (nb s).drop i := by
  intro B
  induction B with
  | zero => intro i h2; rw [List.drop_eq_nil_of_le (by rw [nb_length]; omega)]; rfl
  | succ B ih =>
    intro i h2
    unfold runesN
    by_cases hi : i < s.size
    · rw [if_pos hi]
      rcases decode_kinds s i with ⟨h3, hd⟩ | ⟨h3, hd⟩
      · rw [hd, drop_bx hi]
        simp only
        rw [ih (i + 1) (by omega)]
      · have := h i hi; omega
    · rw [if_neg hi, List.drop_eq_nil_of_le (by rw [nb_length]; omega)]

/-! ## Words -/
theorem word_first {p : ByteArray} (h : IsWord p) : ∃ c l, nb p = c :: l ∧ 97 ≤ c ∧ c ≤ 122 := by
  have hw := h.1 0 (by have := h.2.1; omega)
  have hd := drop_bx (s := p) (k := 0) (by have := h.2.1; omega)
  refine ⟨bx p 0, (nb p).drop 1, by simpa using hd, ?_⟩
  unfold WordAt at hw
  omega
theorem word_byte {p : ByteArray} (h : IsWord p) {c : Nat} (hc : c ∈ nb p) : (97 ≤ c ∧ c ≤ 122) ∨ (48 ≤ c ∧ c ≤ 57) ∨ c = 46 ∨ c = 45 := by
  obtain ⟨j, hj, rfl⟩ := List.getElem_of_mem hc
  rw [bx_getElem]
  rw [nb_length] at hj
  have := h.1 j hj
  unfold WordAt at this
  omega
theorem lowN_letter {c : Nat} (h : 97 ≤ c) : lowN c = c := by unfold lowN; rw [if_neg (by omega)]

theorem word_good {p : ByteArray} (h : IsWord p) : badPart p = false := by
  obtain ⟨c, l, hp, h1, h2⟩ := word_first h
  have hl : lowS (nb p) = c :: lowS l := by rw [hp]; show lowN c :: _ = _; rw [lowN_letter h1]; rfl
  have hr : runes p = nb p := by
    have := ascii_runes p (fun j hj => by have := h.1 j hj; unfold WordAt at this; omega) p.size 0 (by omega)
    rw [List.drop_zero] at this
    exact this
  have hk : ∃ m, keep (runes p) = c :: m := by
    rw [hr, hp]
    refine ⟨keep l, ?_⟩
    unfold keep
    rw [List.filter_cons, if_pos]
    have : ign c = false := by rw [Bool.eq_false_iff]; intro hi; rw [ign_iff] at hi; omega
    rw [this]; rfl
  obtain ⟨m, hk⟩ := hk
  have n126 : (126 : Nat) ∉ nb p := fun hm => by have := word_byte h hm; omega
  unfold badPart
  have e1 : (nb p == [46]) = false := by rw [hp, beq_eq_false_iff_ne]; intro e; injection e with e _; omega
  have e2 : (nb p == [46, 46]) = false := by rw [hp, beq_eq_false_iff_ne]; intro e; injection e with e _; omega
  have e3 : isGit p = false := by
    unfold isGit
    rw [Bool.or_eq_false_iff]
    constructor
    · rw [hl, beq_eq_false_iff_ne]; intro e; injection e with e _; omega
    · rw [beq_eq_false_iff_ne]
      intro e
      have hm : (126 : Nat) ∈ lowS (nb p) := by rw [e]; decide
      unfold lowS at hm
      obtain ⟨x, hx, hx2⟩ := List.mem_map.mp hm
      unfold lowN at hx2
      split at hx2
      · omega
      · subst hx2; exact n126 hx
  have e4 : hfsDot (runes p) gitN = false := by
    unfold hfsDot
    rw [rest_zero, hk, beq_eq_false_iff_ne]
    intro e
    have : lowN c :: lowS m = 46 :: gitN := e
    injection this with e _
    rw [lowN_letter h1] at e; omega
  have e5 : ntfsGit p = false := by
    have b1 : begins p dotGit = false := by
      unfold begins
      rw [beq_eq_false_iff_ne, hp]
      intro e
      have : lowN c :: lowS (l.take 3) = 46 :: [103, 105, 116] := e
      injection this with e _
      rw [lowN_letter h1] at e; omega
    have b2 : begins p gitOne = false := by
      unfold begins
      rw [beq_eq_false_iff_ne]
      intro e
      have hm : (126 : Nat) ∈ lowS ((nb p).take gitOne.length) := by rw [e]; decide
      unfold lowS at hm
      obtain ⟨x, hx, hx2⟩ := List.mem_map.mp hm
      unfold lowN at hx2
      split at hx2
      · omega
      · subst hx2; exact n126 (List.mem_of_mem_take hx)
    unfold ntfsGit
    rw [b1, b2]; rfl
  rw [e1, e2, e3, e4, e5]; rfl
theorem word_nosep {p : ByteArray} (h : IsWord p) : ∀ c ∈ nb p, isSep c = false := fun c hc => by
  have := word_byte h hc
  unfold isSep
  rw [decide_eq_false_iff_not]; omega

/-! ## What is refused -/
/-- A part that makes each path with it refused. -/
structure Bad (b : ByteArray) : Prop where
  small : b.size ≤ 106
  bad : (∃ c ∈ nb b, c < 32 ∨ c = 127) ∨ ((∀ c ∈ nb b, isSep c = false) ∧ nb b ≠ [] ∧ badPart b = true)
/-- A text that is refused. -/
def Ref (l : List Nat) : Prop := (∃ c ∈ l, c < 32 ∨ c = 127) ∨ ∃ p : ByteArray, nb p ∈ parts l ∧ badPart p = true

theorem Ref.not_ok {s : ByteArray} {L : List ByteArray} (h : Ref (nb s)) (hL : L.map nb = parts (nb s)) : ¬ PathOk s L := by
  intro ⟨h1, _, h3⟩
  rcases h with ⟨c, hc, hcc⟩ | ⟨p, hp, hb⟩
  · obtain ⟨j, hj, rfl⟩ := List.getElem_of_mem hc
    rw [bx_getElem] at hcc
    rw [nb_length] at hj
    have := h1 j hj
    omega
  · rw [← hL] at hp
    obtain ⟨q, hq, e⟩ := List.mem_map.mp hp
    rw [nb_inj e] at hq
    rw [h3 p hq] at hb; cases hb
theorem Ref.one {b : ByteArray} (h : Bad b) : Ref (nb b) := by
  rcases h.bad with h | ⟨h1, h2, h3⟩
  · exact .inl h
  · exact .inr ⟨b, by rw [parts_one _ h1, ne_some h2]; simp, h3⟩
theorem Ref.join {l : List Nat} {b : ByteArray} (h : Bad b) : Ref (l ++ [47] ++ nb b) := by
  rcases h.bad with ⟨c, h, hc⟩ | ⟨h1, h2, h3⟩
  · exact .inl ⟨c, by simp [h], hc⟩
  · exact .inr ⟨b, by rw [parts_join _ _ h1, ne_some h2]; simp, h3⟩
theorem Ref.more {l p : List Nat} (h : Ref l) (hp : ∀ c ∈ p, isSep c = false) : Ref (l ++ [47] ++ p) := by
  rcases h with ⟨c, h, hc⟩ | ⟨q, h1, h2⟩
  · exact .inl ⟨c, by simp [h], hc⟩
  · exact .inr ⟨q, by rw [parts_join _ _ hp]; simp [h1], h2⟩

theorem bad_point : Bad ⟨#[46]⟩ := ⟨by decide, .inr ⟨by decide, by decide, rfl⟩⟩
theorem bad_points : Bad ⟨#[46, 46]⟩ := ⟨by decide, .inr ⟨by decide, by decide, rfl⟩⟩
theorem bad_one : Bad ⟨#[97, 1]⟩ := ⟨by decide, .inl ⟨1, by decide, by decide⟩⟩
theorem bad_del : Bad ⟨#[97, 127]⟩ := ⟨by decide, .inl ⟨127, by decide, by decide⟩⟩

theorem low_sep {c : Nat} (h : isSep c = true) : lowN c = c ∧ (c = 47 ∨ c = 92) := by
  unfold isSep at h
  rw [decide_eq_true_iff] at h
  refine ⟨?_, h⟩
  unfold lowN; rw [if_neg (by omega)]

theorem bad_hfs {r : ByteArray} (hs : r.size ≤ 100) (h : lowS (keep (runes r)) = dotGit) : Bad r := by
  refine ⟨by omega, .inr ⟨fun c hc => ?_, fun e => ?_, ?_⟩⟩
  · rw [Bool.eq_false_iff]
    intro hsep
    obtain ⟨hl, h2⟩ := low_sep hsep
    obtain ⟨j, hj, e⟩ := List.getElem_of_mem hc
    rw [bx_getElem] at e
    rw [nb_length] at hj
    have hm : c ∈ runes r := byte_in_runes r c j (by omega) hj e r.size 0 (by omega) (by omega)
    have hk : c ∈ keep (runes r) := by
      unfold keep
      rw [List.mem_filter]
      refine ⟨hm, ?_⟩
      have : ign c = false := by rw [Bool.eq_false_iff]; intro hi; rw [ign_iff] at hi; omega
      rw [this]; rfl
    have hd : lowN c ∈ dotGit := by rw [← h]; exact List.mem_map_of_mem hk
    rw [hl] at hd
    rcases h2 with rfl | rfl <;> revert hd <;> decide
  · have : r = ⟨#[]⟩ := nb_inj e
    rw [this] at h
    revert h; decide
  · unfold badPart hfsDot
    rw [rest_zero, h]
    simp [gitN, dotGit]

def isPoint (c : Nat) : Bool := decide (c = 46 ∨ c = 32)
theorem tailOk_points (t : List Nat) (h : ∀ c ∈ t, isPoint c = true) : tailOk t = true := by
  induction t with
  | nil => rfl
  | cons c r ih =>
    have hc := h c (by simp)
    unfold isPoint at hc
    rw [decide_eq_true_iff] at hc
    unfold tailOk
    rw [if_neg (by omega), if_pos hc]
    exact ih fun d hd => h d (by simp [hd])
theorem bad_ntfs {r b : ByteArray} {t : List Nat} (hb : nb b = nb r ++ t) (hs : b.size ≤ 106) (ht : ∀ c ∈ t, isPoint c = true) (h : lowS (nb r) = dotGit ∨ lowS (nb r) = gitOne) : Bad b := by
  refine ⟨hs, .inr ⟨fun c hc => ?_, fun e => ?_, ?_⟩⟩
  · rw [Bool.eq_false_iff]
    intro hsep
    obtain ⟨hl, h2⟩ := low_sep hsep
    rw [hb] at hc
    rcases List.mem_append.mp hc with hc | hc
    · have hd : lowN c ∈ lowS (nb r) := List.mem_map_of_mem hc
      rw [hl] at hd
      rcases h with h | h <;> rw [h] at hd <;> rcases h2 with rfl | rfl <;> revert hd <;> decide
    · have := ht c hc
      unfold isPoint at this
      rw [decide_eq_true_iff] at this
      omega
  · rw [hb] at e
    have e2 := (List.append_eq_nil_iff.mp e).1
    rw [e2] at h
    rcases h with h | h <;> revert h <;> decide
  · have hlen : (nb r).length = (lowS (nb r)).length := by unfold lowS; rw [List.length_map]
    unfold badPart ntfsGit
    rcases h with h | h
    · have hl : (nb r).length = 4 := by rw [hlen, h]; rfl
      have b1 : begins b dotGit = true := by
        unfold begins
        rw [hb, List.take_append_of_le_length (by rw [hl]; decide), List.take_of_length_le (by rw [hl]; decide), h]; rfl
      have d1 : (nb b).drop 4 = t := by rw [hb, List.drop_append_of_le_length (by omega), List.drop_eq_nil_of_le (by omega)]; rfl
      rw [b1, d1, tailOk_points t ht]; simp
    · have hl : (nb r).length = 5 := by rw [hlen, h]; rfl
      have b1 : begins b gitOne = true := by
        unfold begins
        rw [hb, List.take_append_of_le_length (by rw [hl]; decide), List.take_of_length_le (by rw [hl]; decide), h]; rfl
      have d1 : (nb b).drop 5 = t := by rw [hb, List.drop_append_of_le_length (by omega), List.drop_eq_nil_of_le (by omega)]; rfl
      rw [b1, d1, tailOk_points t ht]; simp

/-! ## The texts that the law puts together -/
/-- i words with slashes between. -/
structure Join (t : ByteArray) (i : Nat) : Prop where
  small : t.size ≤ 31 * i
  good : ∀ c ∈ nb t, 32 ≤ c ∧ c ≠ 127
  words : ∀ q ∈ parts (nb t), ∃ p, nb p = q ∧ IsWord p
  some : 0 < i → parts (nb t) ≠ []
  zero : i = 0 → nb t = []
theorem Join.start : Join ⟨#[]⟩ 0 := ⟨by decide, fun c h => (by cases h), fun q h => (by cases h), fun h => (by omega), fun _ => rfl⟩
theorem word_fine {p : ByteArray} (h : IsWord p) {c : Nat} (hc : c ∈ nb p) : 32 ≤ c ∧ c ≠ 127 := by have := word_byte h hc; omega
theorem word_some {p : ByteArray} (h : IsWord p) : nb p ≠ [] := fun e => by
  have := congrArg List.length e
  rw [nb_length] at this
  have h2 := h.2.1
  rw [List.length_nil] at this
  omega
theorem Join.first {t p : ByteArray} (h : Join t 0) (hp : IsWord p) : Join (t ++ p) 1 := by
  have e : nb (t ++ p) = nb p := by rw [nb_append, h.zero rfl, List.nil_append]
  have hs : (t ++ p).size = p.size := by rw [← nb_length, e, nb_length]
  refine ⟨by rw [hs]; have := hp.2.2; omega, fun c hc => ?_, fun q hq => ?_, fun _ => ?_, fun h => by omega⟩
  · rw [e] at hc; exact word_fine hp hc
  · rw [e, parts_one _ (word_nosep hp), ne_some (word_some hp), List.mem_singleton] at hq
    exact ⟨p, hq.symm, hp⟩
  · rw [e, parts_one _ (word_nosep hp), ne_some (word_some hp)]; simp
theorem Join.next {t p : ByteArray} {i : Nat} (h : Join t i) (hp : IsWord p) : Join (t ++ (⟨#[47]⟩ : ByteArray) ++ p) (i + 1) := by
  have e : nb (t ++ (⟨#[47]⟩ : ByteArray) ++ p) = nb t ++ [47] ++ nb p := by rw [nb_append, nb_append]; rfl
  refine ⟨?_, fun c hc => ?_, fun q hq => ?_, fun _ => ?_, fun h => by omega⟩
  · rw [ByteArray.size_append, ByteArray.size_append]
    have := hp.2.2; have := h.small
    show t.size + 1 + p.size ≤ _
    omega
  · rw [e] at hc
    rcases List.mem_append.mp hc with hc | hc
    · rcases List.mem_append.mp hc with hc | hc
      · exact h.good c hc
      · rw [List.mem_singleton] at hc; omega
    · exact word_fine hp hc
  · rw [e, parts_join _ _ (word_nosep hp), ne_some (word_some hp)] at hq
    rcases List.mem_append.mp hq with hq | hq
    · exact h.words q hq
    · rw [List.mem_singleton] at hq
      exact ⟨p, hq.symm, hp⟩
  · rw [e, parts_join _ _ (word_nosep hp), ne_some (word_some hp)]; simp
theorem Join.ok {t : ByteArray} {i : Nat} (h : Join t i) (hi : 0 < i) {L : List ByteArray} (hL : L.map nb = parts (nb t)) : PathOk t L := by
  refine ⟨fun j hj => ?_, fun e => ?_, fun p hp => ?_⟩
  · have hm : bx t j ∈ nb t := by rw [← bx_getElem t j (by rw [nb_length]; exact hj)]; exact List.getElem_mem _
    exact h.good _ hm
  · subst e
    exact h.some hi hL.symm
  · have hm : nb p ∈ parts (nb t) := by rw [← hL]; exact List.mem_map_of_mem hp
    obtain ⟨q, hq, hw⟩ := h.words _ hm
    rw [← nb_inj hq]
    exact word_good hw
theorem empty_not_ok {s : ByteArray} (hs : nb s = []) {L : List ByteArray} (hL : L.map nb = parts (nb s)) : ¬ PathOk s L := by
  intro h
  rw [hs] at hL
  have : L.map nb = [] := hL
  exact h.2.1 (List.map_eq_nil_iff.mp this)

/-- i parts, a bad one in place k. -/
structure Txt (t : ByteArray) (i k : Nat) : Prop where
  small : t.size ≤ 107 * i
  zero : i = 0 → nb t = []
  ref : k < i → Ref (nb t)
theorem Txt.start (k : Nat) : Txt ⟨#[]⟩ 0 k := ⟨by decide, fun _ => rfl, fun h => by omega⟩
theorem Txt.word0 {t p : ByteArray} {k : Nat} (h : Txt t 0 k) (hp : IsWord p) (hk : 0 < k) : Txt (t ++ p) 1 k := by
  refine ⟨?_, fun h => by omega, fun h => by omega⟩
  rw [ByteArray.size_append]
  have := h.small; have := hp.2.2
  omega
theorem Txt.word {t p : ByteArray} {i k : Nat} (h : Txt t i k) (hp : IsWord p) (hk : i ≠ k) : Txt (t ++ (⟨#[47]⟩ : ByteArray) ++ p) (i + 1) k := by
  refine ⟨?_, fun h => by omega, fun hlt => ?_⟩
  · rw [ByteArray.size_append, ByteArray.size_append]
    have := h.small; have := hp.2.2
    show t.size + 1 + p.size ≤ _
    omega
  · rw [nb_append, nb_append]
    exact (h.ref (by omega)).more (word_nosep hp)
theorem Txt.bad0 {t b : ByteArray} {k : Nat} (h : Txt t 0 k) (hb : Bad b) : Txt (t ++ b) 1 k := by
  refine ⟨?_, fun h => by omega, fun _ => ?_⟩
  · rw [ByteArray.size_append]
    have := h.small; have := hb.small
    omega
  · rw [nb_append, h.zero rfl]
    exact Ref.one hb
theorem Txt.bad {t b : ByteArray} {i k : Nat} (h : Txt t i k) (hb : Bad b) : Txt (t ++ (⟨#[47]⟩ : ByteArray) ++ b) (i + 1) k := by
  refine ⟨?_, fun h => by omega, fun _ => ?_⟩
  · rw [ByteArray.size_append, ByteArray.size_append]
    have := h.small; have := hb.small
    show t.size + 1 + b.size ≤ _
    omega
  · rw [nb_append, nb_append]
    exact Ref.join hb
end Go.Proofs.YtdmkjfkdjhmpjaaDoor
