/- ValidTreePath, word, PathErr. -/
import Derived.Test.YtdmkjfkdjhmpjaaDoorParts
import Derived.Test.YtdmkjfkdjhmpjaaDoorDot
import Derived.Deep.DeepCutAuto
namespace Go.Proofs.YtdmkjfkdjhmpjaaDoor
open Go.RowKit
set_option linter.unusedSimpArgs false
set_option linter.unusedVariables false

def badPart (p : ByteArray) : Bool := (nb p == [46] || nb p == [46, 46]) || (isGit p || hfsDot (runes p) gitN || ntfsGit p)
def PathOk (s : ByteArray) (L : List ByteArray) : Prop := (∀ j, j < s.size → 32 ≤ bx s j ∧ bx s j ≠ 127) ∧ L ≠ [] ∧ ∀ p ∈ L, badPart p = false

theorem foldP_len (N : Nat) (l : List Nat) : ∀ d cur, (∀ q ∈ d, q.length ≤ N) → cur.length + l.length ≤ N → (∀ q ∈ (l.foldl stepP (d, cur)).1, q.length ≤ N) ∧ (l.foldl stepP (d, cur)).2.length ≤ N := by
  induction l with
  | nil => intro d cur h1 h2; exact ⟨h1, by simpa using h2⟩
  | cons c l ih =>
    intro d cur h1 h2
    rw [List.length_cons] at h2
    rw [List.foldl_cons]
    unfold stepP
    split
    · refine ih _ _ (fun q hq => ?_) (by simp; omega)
      rcases List.mem_append.mp hq with hq | hq
      · exact h1 q hq
      · unfold ne at hq
        split at hq
        · cases hq
        · rw [List.mem_singleton] at hq
          subst hq
          omega
    · exact ih _ _ h1 (by rw [List.length_append]; simp; omega)
theorem runP_len (l : List Nat) : (∀ q ∈ (runP l).1, q.length ≤ l.length) ∧ (runP l).2.length ≤ l.length :=
  foldP_len l.length l [] [] (fun q h => by cases h) (by simp)
theorem foldP_all (P : Nat → Prop) (l : List Nat) : ∀ d cur, (∀ q ∈ d, ∀ c ∈ q, P c) → (∀ c ∈ cur, P c) → (∀ c ∈ l, P c) → (∀ q ∈ (l.foldl stepP (d, cur)).1, ∀ c ∈ q, P c) ∧ ∀ c ∈ (l.foldl stepP (d, cur)).2, P c := by
  induction l with
  | nil => intro d cur h1 h2 _; exact ⟨h1, h2⟩
  | cons x l ih =>
    intro d cur h1 h2 h3
    rw [List.foldl_cons]
    unfold stepP
    split
    · refine ih _ _ (fun q hq => ?_) (fun c hc => by cases hc) (fun c hc => h3 c (by simp [hc]))
      rcases List.mem_append.mp hq with hq | hq
      · exact h1 q hq
      · unfold ne at hq
        split at hq
        · cases hq
        · rw [List.mem_singleton] at hq
          subst hq
          exact h2
    · refine ih _ _ h1 (fun c hc => ?_) (fun c hc => h3 c (by simp [hc]))
      rcases List.mem_append.mp hc with hc | hc
      · exact h2 c hc
      · rw [List.mem_singleton] at hc
        subst hc
        exact h3 c (by simp)
theorem parts_len (l : List Nat) : ∀ q ∈ parts l, q.length ≤ l.length := by
  intro q hq
  rcases List.mem_append.mp hq with hq | hq
  · exact (runP_len l).1 q hq
  · unfold ne at hq
    split at hq
    · cases hq
    · rw [List.mem_singleton] at hq
      subst hq
      exact (runP_len l).2
theorem part_len {s : ByteArray} {L : List ByteArray} (h : L.map nb = parts (nb s)) (p : ByteArray) (hp : p ∈ L) : p.size ≤ s.size := by
  have h2 : nb p ∈ parts (nb s) := by rw [← h]; exact List.mem_map_of_mem hp
  have := parts_len _ _ h2
  rwa [nb_length, nb_length] at this

/-- The variable holds an error with a text that is not empty. -/
structure ErrVar (w : World) (a : Addr) (msg : ByteArray) : Prop where
  var : w.cell? ⟨0, 0, none⟩ = some (.iface 51 (.pointer (some a)))
  text : w.cell? a = some (.string msg)
  some : msg.size ≠ 0
  lt : 0 < w.heap.size ∧ a.block < w.heap.size
theorem ErrVar.below {w w' : World} {a : Addr} {msg : ByteArray} (h : ErrVar w a msg) (hb : Below w.heap.size w w') : ErrVar w' a msg :=
  ⟨(hb.cell (p := ⟨0, 0, none⟩) h.lt.1).trans h.var, (hb.cell h.lt.2).trans h.text, h.some, Nat.lt_of_lt_of_le h.lt.1 hb.size, Nat.lt_of_lt_of_le h.lt.2 hb.size⟩

def TreePost (s : ByteArray) (a : Addr) (w : World) (e : Ending) (w' : World) : Prop :=
  ∃ L : List ByteArray, L.map nb = parts (nb s) ∧ Below w.heap.size w w' ∧ ((PathOk s L ∧ e = .returned .nilIface) ∨ (¬ PathOk s L ∧ e = .returned (.iface 51 (.pointer (some a)))))

theorem exists_parts (s : ByteArray) : ∃ L : List ByteArray, L.map nb = parts (nb s) := by
  have hlt : ∀ l : List Nat, (∀ c ∈ l, c < 256) → ∃ p : ByteArray, nb p = l := fun l h => ⟨_, nb_strOfNums l h⟩
  have key : ∀ M : List (List Nat), (∀ q ∈ M, ∀ c ∈ q, c < 256) → ∃ L : List ByteArray, L.map nb = M := by
    intro M
    induction M with
    | nil => intro _; exact ⟨[], rfl⟩
    | cons q r ih =>
      intro h
      obtain ⟨p, hp⟩ := hlt q (h q (by simp))
      obtain ⟨L, hL⟩ := ih (fun q hq => h q (by simp [hq]))
      exact ⟨p :: L, by rw [List.map_cons, hp, hL]⟩
  refine key _ ?_
  have hb := foldP_all (fun c => c < 256) (nb s) [] [] (fun q h => by cases h) (fun c h => by cases h) (fun c hc => nb_lt hc)
  intro q hq
  rcases List.mem_append.mp hq with hq | hq
  · exact hb.1 q hq
  · unfold ne at hq
    split at hq
    · cases hq
    · rw [List.mem_singleton] at hq
      subst hq
      exact hb.2

set_option maxRecDepth 100000 in
set_option maxHeartbeats 2000000 in
theorem tree_any (s : ByteArray) (a : Addr) (msg : ByteArray) (w : World) (hs : s.size ≤ 10000) (hv : ErrVar w a msg) :
    Calls Tryd.prog 13 #[.string s] w (TreePost s a w) := by
  have hvar := hv.var
  have HV := Lib.hid hv; clear hv
  go_enter Tryd.func13, Tryd.ntmps13
  go_wp2
  go_loop [3] (fun i => ∃ k : Nat, k ≤ s.size ∧ i = .int .i64 k ∧ ∀ j, j < k → 32 ≤ bx s j ∧ bx s j ≠ 127) (fun i => s.size - (intOf i).toNat)
  case atStart => exact ⟨0, Nat.zero_le _, rfl, fun j h => by omega⟩
  case round =>
    obtain ⟨k, hk, rfl, hall⟩ := hrel
    have HALL := Lib.hid hall; clear hall
    by_cases hlt : k < s.size
    · have hb := bx_get s k hlt
      generalize hcc : bx s k = c at hb
      have HC := Lib.hid hcc; clear hcc
      by_cases h1 : (c : Int) < 32
      · go_wp2
        go_ret
        obtain ⟨L, hL⟩ := exists_parts s
        exact ⟨L, hL, Below.refl _ _, .inr ⟨fun h => by have := (h.1 k hlt).1; rw [HC.out] at this; omega, rfl⟩⟩
      · have h1' : (32 : Int) ≤ c := by omega
        by_cases h2 : c = 127
        · have q2 : ((c : Int) == 127) = true := by simp [h2]
          have H2 := Lib.hid h2; clear h2
          go_wp2
          go_ret
          obtain ⟨L, hL⟩ := exists_parts s
          exact ⟨L, hL, Below.refl _ _, .inr ⟨fun h => absurd (HC.out.trans H2.out) (h.1 k hlt).2, rfl⟩⟩
        · have q2 : ((c : Int) == 127) = false := by simp; omega
          have H2 := Lib.hid h2; clear h2
          go_wp2
          go_round
          case rel =>
            refine ⟨k + 1, by omega, by go_num, fun j hj => ?_⟩
            by_cases e : j = k
            · subst e; rw [HC.out]; exact ⟨by omega, H2.out⟩
            · exact HALL.out j (by omega)
          case measure => simp [intOf]; omega
    · obtain rfl : k = s.size := by omega
      go_wp2_with fail
      with_reducible refine (zzParts_any s _ hs).mono ?_
      rintro e w1 ⟨v, L, rfl, hown, hL, hb1⟩
      have hv1 := HV.out.below hb1
      have hvar1 := hv1.var
      have HV1 := Lib.hid hv1
      obtain ⟨A, cc, rfl, hll, hst⟩ := hown.strs
      unfold maxLen at hll
      have HST := Lib.hid hst
      have HL := Lib.hid hL
      have HB1 := Lib.hid hb1
      clear hvar hv1 hown hL hb1 hst
      by_cases h0 : L = []
      · subst h0
        go_wp2
        go_ret
        exact ⟨[], HL.out, HB1.out, .inr ⟨fun h => h.2.1 rfl, rfl⟩⟩
      · have hl0 : L.length ≠ 0 := fun e => h0 (List.length_eq_zero_iff.mp e)
        have q0 : ((L.length : Int) == 0) = false := by simp; exact h0
        have H0 := Lib.hid h0; clear h0
        go_wp2
        clear hvar1
        go_loopw [32] (fun i wr => ∃ k : Nat, k ≤ L.length ∧ i = .int .i64 k ∧ (∀ j, j < k → badPart (L.getD j ⟨#[]⟩) = false) ∧ Below w1.heap.size w1 wr) (fun i _ => L.length - (intOf i).toNat)
        case atStart => exact ⟨0, Nat.zero_le _, rfl, fun j h => by omega, Below.refl _ _⟩
        case round =>
          obtain ⟨k, hk2, rfl, hall, hbw⟩ := hrel
          have HALL2 := Lib.hid hall
          have HBW := Lib.hid hbw
          have hvw := (HV1.out.below hbw).var
          have HVW := Lib.hid hvw
          by_cases hlt2 : k < L.length
          · obtain ⟨b, off, rfl, _, hc⟩ := (HST.out.below hbw).at k hlt2
            have hmem : L.getD k ⟨#[]⟩ ∈ L := by
              rw [List.getD_eq_getElem?_getD, List.getElem?_eq_getElem hlt2]; exact List.getElem_mem _
            have hps := part_len HL.out _ hmem
            have HMEM := Lib.hid hmem
            clear hall hbw hmem
            generalize hp : L.getD k ⟨#[]⟩ = p at hc hps HMEM
            have HP := Lib.hid hp; clear hp
            have HPM : Hid (p.size ≤ maxLen) := Lib.hid (by unfold maxLen; omega)
            have hq1 := beq_str p [46]
            have hq2 := beq_str p [46, 46]
            have hbp : badPart p = ((nb p == [46] || nb p == [46, 46]) || (isGit p || hfsDot (runes p) gitN || ntfsGit p)) := rfl
            rw [show ([46] : List UInt8).map UInt8.toNat = [46] from rfl] at hq1
            rw [show ([46, 46] : List UInt8).map UInt8.toNat = [46, 46] from rfl] at hq2
            have HBP := Lib.hid hbp; clear hbp
            generalize (nb p == [46]) = D1 at hq1 HBP
            generalize (nb p == [46, 46]) = D2 at hq2 HBP
            cases D1 with
            | true =>
              go_wp2
              go_ret
              exact ⟨L, HL.out, HB1.out.trans (HBW.out.mono HB1.out.size), .inr ⟨fun h => by have := h.2.2 p HMEM.out; rw [HBP.out] at this; simp at this, rfl⟩⟩
            | false =>
              cases D2 with
              | true =>
                go_wp2
                go_ret
                exact ⟨L, HL.out, HB1.out.trans (HBW.out.mono HB1.out.size), .inr ⟨fun h => by have := h.2.2 p HMEM.out; rw [HBP.out] at this; simp at this, rfl⟩⟩
              | false =>
                go_upto_region 14 with (fail)
                clear hq1 hq2 hc
                go_cut [52] (fun v wx => v = .bool (isGit p || hfsDot (runes p) gitN || ntfsGit p) ∧ Below wr.heap.size wr wx)
                case first =>
                  go_wp2_with fail
                  with_reducible refine (isDotGitName_any p _ HPM.out).mono ?_
                  rintro e w2 ⟨rfl, hb2⟩
                  have HB2 := Lib.hid hb2; clear hb2
                  have hg : isGit p = (lowS (nb p) == dotGit || lowS (nb p) == gitOne) := rfl
                  rw [← hg]
                  clear hg
                  generalize hG1 : isGit p = G1
                  have HG1 := Lib.hid hG1; clear hG1
                  cases G1 with
                  | true =>
                    go_wp2
                    go_meet
                    case rel => exact ⟨by rw [HG1.out]; rfl, HB2.out⟩
                  | false =>
                    go_wp2_with fail
                    with_reducible refine (isHFSDotGit_any p _ (by omega)).mono ?_
                    rintro e w3 ⟨rfl, hb3⟩
                    have HB3 := Lib.hid (HB2.out.trans (hb3.mono HB2.out.size)); clear hb3
                    generalize hG2 : hfsDot (runes p) gitN = G2
                    have HG2 := Lib.hid hG2; clear hG2
                    cases G2 with
                    | true =>
                      go_wp2
                      go_meet
                      case rel => exact ⟨by rw [HG1.out, HG2.out]; rfl, HB3.out⟩
                    | false =>
                      go_wp2_with fail
                      with_reducible refine (isNTFSDotGit_any p _ HPM.out).mono ?_
                      rintro e w4 ⟨rfl, rfl⟩
                      have hg : ntfsGit p = ((begins p dotGit && tailOk ((nb p).drop 4)) || (begins p gitOne && tailOk ((nb p).drop 5))) := rfl
                      rw [← hg]
                      clear hg
                      generalize hG3 : ntfsGit p = G3
                      have HG3 := Lib.hid hG3; clear hG3
                      go_wp2
                      go_meet
                      case rel => exact ⟨by rw [HG1.out, HG2.out, HG3.out]; rfl, HB3.out⟩
                case rest =>
                  obtain ⟨rfl, hbx⟩ := hcut
                  have HBX := Lib.hid (HBW.out.trans (hbx.mono HBW.out.size))
                  have hvx := (HV1.out.below HBX.out).var
                  clear hbx
                  generalize (isGit p || hfsDot (runes p) gitN || ntfsGit p) = G at HBP ⊢
                  cases G with
                  | true =>
                    go_wp2
                    go_ret
                    exact ⟨L, HL.out, HB1.out.trans (HBX.out.mono HB1.out.size), .inr ⟨fun h => by have := h.2.2 p HMEM.out; rw [HBP.out] at this; simp at this, rfl⟩⟩
                  | false =>
                    clear hvw
                    go_wp2
                    go_roundw
                    case rel =>
                      refine ⟨k + 1, by omega, by go_num, fun j hj => ?_, HBX.out⟩
                      by_cases e : j = k
                      · subst e; rw [HP.out, HBP.out]; rfl
                      · exact HALL2.out j (by omega)
                    case measure => simp [intOf]; omega
          · clear hvw hall hbw
            go_wp2
            go_ret
            refine ⟨L, HL.out, HB1.out.trans (HBW.out.mono HB1.out.size), .inl ⟨⟨fun j hj => HALL.out j hj, H0.out, fun p hp => ?_⟩, rfl⟩⟩
            obtain ⟨j, hj, rfl⟩ := List.getElem_of_mem hp
            have := HALL2.out j (by omega)
            rwa [List.getD_eq_getElem?_getD, List.getElem?_eq_getElem hj] at this
end Go.Proofs.YtdmkjfkdjhmpjaaDoor
