/- gitattributes' matcher: NewMatcher, Match over lines without a macro. -/
import Derived.Test.YteipeagdflcjjaaDoorQAmN
import Derived.Test.YteipeagdflcjjaaDoorQAmP
import Derived.Test.YteipeagdflcjjaaDoorQAtI
namespace Go.Proofs.YteipeagdflcjjaaDoor.Am
open Go.RowKit
open Go.Maps (Keyed string_keyed)
set_option linter.unusedSimpArgs false
set_option linter.unusedVariables false

def NewMPost (sv : Value) (w : World) (e : Ending) (w' : World) : Prop :=
  ∃ macb, e = .returned (.iface 136 (.pointer (some ⟨w.heap.size, 0, none⟩))) ∧ MatAt w' w.heap.size macb sv ∧ MapIs w' macb 0 (fun _ => none) 0 ∧ Below w.heap.size w w'
set_option maxHeartbeats 1000000 in
theorem newMatcher_any (sv : Value) (L : List MA) (w : World) (hL : L.length ≤ 1000) (hpat : ∀ a ∈ L, a.pat ≠ none) (hr : RowsAt w sv L) (hlt : ∀ b, sv.ownBlock = some b → b < w.heap.size) :
    Calls Tryd.prog 44 #[sv] w (NewMPost sv w) := by
  have hb : Below w.heap.size w (w.alloc (.cells #[sv, .map none] 139)) := (Below.refl _ _).alloc (Nat.le_refl _) _
  have HR2 : Hid (RowsAt (w.alloc (.cells #[sv, .map none] 139)) sv L) := Lib.hid (hr.below hb)
  have HB := Lib.hid hb
  have HPA := Lib.hid hpat; have HLT := Lib.hid hlt
  obtain ⟨A, c, rfl, _, _⟩ := hr
  clear hpat hlt hb
  go_enter Tryd.func44, Tryd.ntmps44
  go_wp2_with fail
  with_reducible refine (init_any w.heap.size _ L _ hL HPA.out HR2.out (heap_new w _) (fun b e => by have := HLT.out b e; omega)).mono ?_
  rintro e w2 ⟨macb, ⟨r, rfl⟩, hm, hmap, hb2⟩
  have HM := Lib.hid hm; have HMA := Lib.hid hmap; have HB2 := Lib.hid (HB.out.trans hb2)
  clear hm hmap hb2
  go_wp2
  go_ret
  exact ⟨macb, rfl, HM.out, HMA.out, HB2.out⟩

/-- What Match has gathered: by names, and how many. -/
structure RM where
  M : ByteArray → Option AttrT
  K : Nat
def RM.val (r : RM) : MapV := fun s => (r.M s).map attrV
def RM.put (r : RM) (a : AttrT) : RM := ⟨fun x => if nb x = nb a.1 then some a else r.M x, if (r.M a.1).isSome then r.K else r.K + 1⟩
def RM.puts (r : RM) (n : Nat) (att : Nat → AttrT) : RM := (List.range n).foldl (fun r i => r.put (att i)) r
def RM.empty : RM := ⟨fun _ => none, 0⟩
theorem RM.val_put (r : RM) (a : AttrT) : (r.put a).val = upd r.val a.1 (attrV a) := by
  funext x
  unfold RM.val RM.put upd
  dsimp only
  by_cases e : nb x = nb a.1
  · rw [if_pos e, if_pos e]; rfl
  · rw [if_neg e, if_neg e]
theorem RM.puts_succ (r : RM) (n : Nat) (att : Nat → AttrT) : r.puts (n + 1) att = (r.puts n att).put (att n) := by
  unfold RM.puts
  rw [List.range_succ, List.foldl_append]; rfl
/-- The lines from the last one on: those whose pattern hits lay their attributes. -/
def mgo (nn : Nat) (hit : Nat → Bool) (L : List MA) : Nat → RM → Bool → RM × Bool
  | 0, r, m => (r, m)
  | k + 1, r, m => if 0 < nn ∧ nn = r.K then (r, m) else if hit k = true then mgo nn hit L k (match L[k]? with | some a => r.puts a.n a.att | none => r) true else mgo nn hit L k r m
theorem makeHint (w : World) (n : Int) : (Instr.makeMap 100 (some (.int .i64 n))).run Tryd.prog w = .ok (.map (some w.heap.size)) (w.alloc (.map #[] 0)) := by
  simp [Instr.makeMap, run_underlying attMap, asInt, asIntOf, Result.andThen]
/-- The map of the results. -/
def ResAt (w : World) (rb N : Nat) (r : RM) : Prop := MapIs w rb N r.val r.K
theorem ResAt.len {w : World} {rb N : Nat} {r : RM} (h : ResAt w rb N r) (ty : TypeId) : (Builtin.len_ #[100] ty #[.map (some rb)]).run Tryd.prog w = .ok (.int .i64 (r.K : Nat)) w := by
  obtain ⟨D, ho, hd⟩ := h
  have := ho.len attMap ty
  rwa [hd.size] at this
def MatchRes (r : RM) (m : Bool) (N : Nat) (w : World) (e : Ending) (w' : World) : Prop :=
  e = .returned (.tuple #[.map (some w.heap.size), .bool m]) ∧ ResAt w' w.heap.size N r ∧ Below w.heap.size w w'

set_option maxRecDepth 100000 in
set_option maxHeartbeats 8000000 in
theorem mMatch_any (mb macb : Nat) (sv : Value) (L : List MA) (pA nA : Option Addr) (pn pc nn nc : Nat) (hit : Nat → Bool) (w : World) (hL : L.length ≤ 1000) (hm : MatAt w mb macb sv) (hmac : MapIs w macb 0 (fun _ => none) 0) (hr : RowsAt w sv L)
    (hatt : ∀ (k : Nat) (a : MA), L[k]? = some a → a.n ≤ 1000 ∧ Rd w a.A a.n (fun i => attrV (a.att i)) ∧ ∀ i, i < a.n → (a.att i).1.size ≤ maxLen) (hnn : nn ≤ 1000)
    (hhit : ∀ (k : Nat) (a : MA), L[k]? = some a → ∃ pb, a.pv = .iface 152 (.pointer (some ⟨pb, 0, none⟩)) ∧ ∀ W, Below w.heap.size w W → Calls Tryd.prog 135 #[.pointer (some ⟨pb, 0, none⟩), .slice pA pn pc] W (HitPost (hit k) W)) :
    Calls Tryd.prog 126 #[.pointer (some ⟨mb, 0, none⟩), .slice pA pn pc, .slice nA nn nc] w (fun e w' => ∃ N, MatchRes (mgo nn hit L L.length RM.empty false).1 (mgo nn hit L L.length RM.empty false).2 N w e w') := by
  obtain ⟨A, c, rfl, hlm, hrow⟩ := hr
  have HR := Lib.hid hrow; have HM := Lib.hid hm; have HMAC := Lib.hid hmac; have HATT := Lib.hid hatt; have HHIT := Lib.hid hhit
  clear hrow hm hmac hatt hhit
  have HMB : Hid (mb < w.heap.size) := Lib.hid (Array.getElem?_eq_some_iff.1 HM.out).1
  obtain ⟨FIN, hfin⟩ : ∃ FIN, mgo nn hit L L.length RM.empty false = FIN := ⟨_, rfl⟩
  have HFIN := Lib.hid hfin
  clear hfin
  have hna : ∀ (b : Nat) (w : World), (nilAhead 321 152 (.pointer (some ⟨b, 0, none⟩)) "Match").run Tryd.prog w = .ok (some false) w := fun _ _ => by kernel_rfl
  have hme : ∀ (b : Nat) (w : World), (method 321 152 (.pointer (some ⟨b, 0, none⟩)) "Match").run Tryd.prog w = .ok (135, .pointer (some ⟨b, 0, none⟩)) w := fun _ _ => by kernel_rfl
  have n1 : ∀ (a : ByteArray) (x : Nat) (b : ByteArray) (w : World), (nilAhead 321 127 (.agg #[.string a, .int .u8 (x : Nat), .string b]) "Name").run Tryd.prog w = .ok (some false) w := fun _ _ _ _ => by kernel_rfl
  have n3 : ∀ (a : ByteArray) (x : Nat) (b : ByteArray) (w : World), (nilAhead 321 127 (.agg #[.string a, .int .u8 (x : Nat), .string b]) "IsSet").run Tryd.prog w = .ok (some false) w := fun _ _ _ _ => by kernel_rfl
  have m1 : ∀ (a : ByteArray) (x : Nat) (b : ByteArray) (w : World), (method 321 127 (.agg #[.string a, .int .u8 (x : Nat), .string b]) "Name").run Tryd.prog w = .ok (123, .agg #[.string a, .int .u8 (x : Nat), .string b]) w := fun _ _ _ _ => by kernel_rfl
  have m3 : ∀ (a : ByteArray) (x : Nat) (b : ByteArray) (w : World), (method 321 127 (.agg #[.string a, .int .u8 (x : Nat), .string b]) "IsSet").run Tryd.prog w = .ok (119, .agg #[.string a, .int .u8 (x : Nat), .string b]) w := fun _ _ _ _ => by kernel_rfl
  have hmk := makeHint w nn
  go_enter Tryd.func126, Tryd.ntmps126
  go_upto_region 2 with (fail)
  clear hmk
  have HW0 : Hid (ResAt (w.alloc (.map #[] 0)) w.heap.size 0 RM.empty) := Lib.hid (MapIs.made w)
  have HB0 : Hid (Below w.heap.size w (w.alloc (.map #[] 0))) := Lib.hid ((Below.refl _ _).alloc (Nat.le_refl _) _)
  generalize w.alloc (.map #[] 0) = W0 at HW0 HB0 ⊢
  generalize hrb : w.heap.size = rb at *
  have HRBE := Lib.hid hrb; clear hrb
  have cell0 : ∀ W, Below rb w W → W.cell? ⟨mb, 0, none⟩ = some (.slice A L.length c) := fun W hb => by
    rw [Lib.cell_of_heap ((hb.block mb HMB.out).trans HM.out)]; rfl
  have C0 := Lib.hid cell0
  clear cell0
  have c0 := C0.out W0 HB0.out
  generalize hn : L.length = n at *
  have HN := Lib.hid hn; clear hn
  go_wp2
  clear c0
  go_loopw [7, 9] (fun mv iv wr => ∃ (j N : Nat) (r : RM) (m : Bool), j ≤ n ∧ mv = .bool m ∧ iv = .int .i64 ((j : Int) - 1) ∧ N ≤ (n - j) * 1000 ∧ ResAt wr rb N r ∧ mgo nn hit L j r m = FIN ∧ Below rb w wr) (fun _ iv _ => (intOf iv + 1).toNat)
  case atStart => exact ⟨n, 0, RM.empty, false, Nat.le_refl _, rfl, rfl, Nat.zero_le _, HW0.out, HFIN.out, HB0.out⟩
  case round =>
    clear HW0 HB0
    obtain ⟨j, N, r, m, hj, rfl, hiv, hNb, hres, hgo, hbel⟩ := hrel
    have HRES := Lib.hid hres; have HGO := Lib.hid hgo; have HB := Lib.hid hbel
    clear hres hgo hbel
    have HEND : Hid (mgo nn hit L j r m = (r, m) → ∀ W, ResAt W rb N r → Below rb w W → ∃ N', MatchRes (mgo nn hit L L.length RM.empty false).1 (mgo nn hit L L.length RM.empty false).2 N' w (.returned (.tuple #[.map (some rb), .bool m])) W) := Lib.hid (fun h W h1 h2 => by
      have hf : mgo nn hit L L.length RM.empty false = (r, m) := by rw [HN.out, HFIN.out, ← HGO.out, h]
      rw [hf]
      exact ⟨N, by rw [HRBE.out], by rw [HRBE.out]; exact h1, by rw [HRBE.out]; exact h2⟩)
    cases j with
    | zero =>
      have hiv2 : u9 = .int .i64 (-1) := hiv
      clear hiv
      subst hiv2
      go_wp2
      go_ret2
      exact HEND.out rfl _ HRES.out HB.out
    | succ j =>
      have hiv2 : u9 = .int .i64 (j : Nat) := hiv.trans (congrArg (Value.int .i64) (by omega))
      clear hiv
      subst hiv2
      obtain ⟨a, ha⟩ : ∃ a, L[j]? = some a := ⟨L[j]'(by rw [HN.out]; omega), List.getElem?_eq_getElem _⟩
      have hlen := HRES.out.len
      go_upto_region 6 with (fail)
      go_cut [37] (fun v wx => v = .bool (decide (0 < nn ∧ nn = r.K)) ∧ wx = wr)
      case first =>
        by_cases h0 : 0 < nn
        · have h0' : (0 : Int) < nn := by omega
          by_cases h1 : nn = r.K
          · have q1 : ((nn : Int) == (r.K : Int)) = true := beq_iff_eq.mpr (by omega)
            have HD : Hid (decide (0 < nn ∧ nn = r.K) = true) := Lib.hid (decide_eq_true ⟨h0, h1⟩)
            clear h1
            go_wp2
            go_meet
            case rel => exact ⟨by rw [HD.out], rfl⟩
          · have q1 : ((nn : Int) == (r.K : Int)) = false := beq_eq_false_iff_ne.mpr (by omega)
            have HD : Hid (decide (0 < nn ∧ nn = r.K) = false) := Lib.hid (decide_eq_false (fun h => h1 h.2))
            clear h1
            go_wp2
            go_meet
            case rel => exact ⟨by rw [HD.out], rfl⟩
        · have h0' : ¬ (0 : Int) < nn := by omega
          have HD : Hid (decide (0 < nn ∧ nn = r.K) = false) := Lib.hid (decide_eq_false (fun h => h0 h.1))
          go_wp2
          go_meet
          case rel => exact ⟨by rw [HD.out], rfl⟩
      case rest =>
      obtain ⟨rfl, hwx⟩ := hcut
      have hwx' := hwx.symm
      clear hwx hlen
      subst hwx'
      cases hfull : decide (0 < nn ∧ nn = r.K) with
      | true =>
        have HF : Hid (mgo nn hit L (j + 1) r m = (r, m)) := Lib.hid (by unfold mgo; rw [if_pos (of_decide_eq_true hfull)])
        clear hfull
        go_wp2
        go_ret2
        exact HEND.out HF.out _ HRES.out HB.out
      | false =>
        have HNF : Hid (¬ (0 < nn ∧ nn = r.K)) := Lib.hid (of_decide_eq_false hfull)
        clear hfull HEND
        obtain ⟨b, hA, hbl, d0, d1, d2⟩ := HR.out j a ha
        subst hA
        obtain ⟨pb, hpv, hcall⟩ := HHIT.out j a ha
        obtain ⟨han, hatts, hsizes⟩ := HATT.out j a ha
        have HCALL := Lib.hid hcall; have HATTS := Lib.hid hatts; have HSIZES := Lib.hid hsizes; have HA := Lib.hid ha
        rw [hpv] at d1
        have hbb : ∀ W, Below rb w W → W.cell? ⟨b, j * 3 + 1, none⟩ = some (.iface 152 (.pointer (some ⟨pb, 0, none⟩))) ∧ W.cell? ⟨b, j * 3 + 2, none⟩ = some (.slice a.A a.n a.c) := fun W h => ⟨(h.cell (p := ⟨b, _, none⟩) (by omega)).trans d1, (h.cell (p := ⟨b, _, none⟩) (by omega)).trans d2⟩
        have HBB := Lib.hid hbb
        clear hcall hatts hsizes ha hpv d0 d1 d2 hbb
        have c0 := C0.out wr HB.out
        obtain ⟨d1, _⟩ := HBB.out wr HB.out
        go_wp2_with fail
        with_reducible refine (HCALL.out _ HB.out).mono ?_
        rintro e w2 ⟨rfl, hb2⟩
        have HB2 : Hid (Below rb w w2) := Lib.hid (HB.out.trans (hb2.mono (by have := HB.out.size; rw [HRBE.out] at this; exact this)))
        have HRES2 : Hid (ResAt w2 rb N r) := Lib.hid (HRES.out.kept (hb2.block rb (MapIs.lt HRES.out)))
        clear hb2 c0 d1 HRES HB
        cases hh : hit j with
        | false =>
          have HG2 : Hid (mgo nn hit L j r m = FIN) := Lib.hid (by rw [← HGO.out]; conv => rhs; unfold mgo; rw [if_neg HNF.out, if_neg (by rw [hh]; decide)])
          clear hh
          go_wp2
          go_roundw
          case rel => exact ⟨j, N, r, m, by omega, rfl, rfl, by omega, HRES2.out, HG2.out, HB2.out⟩
          case measure => simp [intOf]
        | true =>
          have HG2 : Hid (mgo nn hit L j (r.puts a.n a.att) true = FIN) := Lib.hid (by
            rw [← HGO.out]
            conv => rhs; unfold mgo
            rw [if_neg HNF.out, if_pos hh, HA.out])
          clear hh
          have c0 := C0.out w2 HB2.out
          obtain ⟨_, d2⟩ := HBB.out w2 HB2.out
          go_upto_region 13 with (fail)
          clear c0 d2
          go_loopw [61] (fun iv2 wr2 => ∃ q : Nat, q ≤ a.n ∧ iv2 = .int .i64 (q : Nat) ∧ ResAt wr2 rb (N + q) (r.puts q a.att) ∧ Below rb w wr2) (fun iv2 _ => a.n - (intOf iv2).toNat)
          case atStart => exact ⟨0, Nat.zero_le _, rfl, HRES2.out, HB2.out⟩
          case round =>
            clear HRES2 HB2
            obtain ⟨q, hq, rfl, hres, hbel⟩ := hrel
            have HRES := Lib.hid hres; have HB := Lib.hid hbel
            clear hres hbel
            by_cases hlt : q < a.n
            · obtain ⟨b2, o2, hA2, hb2l, hcA⟩ := HATTS.out q hlt
              have hcB := (HB.out.cell (p := ⟨b2, o2 + q, none⟩) (show b2 < rb from by have := HRBE.out; omega)).trans hcA
              have HSZ := Lib.hid (HSIZES.out q hlt)
              obtain ⟨⟨s1, x1, v1⟩, haq⟩ : ∃ y, a.att q = y := ⟨_, rfl⟩
              rw [haq] at HSZ
              have HSZ : Hid (s1.size ≤ maxLen) := HSZ
              have HAQ := Lib.hid haq
              have hc2 : wr.cell? ⟨b2, o2 + q, none⟩ = some (.iface 127 (.agg #[.string s1, .int .u8 (x1 : Nat), .string v1])) := hcB.trans (by show some (attrV (a.att q)) = _; rw [haq]; rfl)
              clear haq hcA hcB
              generalize a.A = aA at *
              subst hA2
              go_wp2_with fail
              with_reducible refine (m_isSet s1 x1 v1 _).mono ?_
              rintro e w3 ⟨rfl, hb3⟩
              have HB3 : Hid (Below rb w w3) := Lib.hid (HB.out.trans (hb3.mono (by have := HB.out.size; rw [HRBE.out] at this; exact this)))
              have HR3 : Hid (ResAt w3 rb (N + q) (r.puts q a.att)) := Lib.hid (HRES.out.kept (hb3.block rb (MapIs.lt HRES.out)))
              clear hb3 hc2
              by_cases hx : x1 = 1
              · have q1 : ((x1 : Int) == 1) = true := beq_iff_eq.mpr (by omega)
                rw [q1]
                clear hx
                go_wp2_with fail
                with_reducible refine (m_name s1 x1 v1 _).mono ?_
                rintro e w4 ⟨rfl, hb4⟩
                have HB4 : Hid (Below rb w w4) := Lib.hid (HB3.out.trans (hb4.mono (by have := HB3.out.size; rw [HRBE.out] at this; exact this)))
                have HR4 : Hid (ResAt w4 rb (N + q) (r.puts q a.att)) := Lib.hid (HR3.out.kept (hb4.block rb (MapIs.lt HR3.out)))
                have HM4 : Hid (w4.cell? ⟨mb, 1, none⟩ = some (.map (some macb)) ∧ MapIs w4 macb 0 (fun _ => none) 0) := Lib.hid ⟨by rw [Lib.cell_of_heap ((HB4.out.block mb HMB.out).trans HM.out)]; rfl, HMAC.out.kept (HB4.out.block macb (by have := HMAC.out.lt; have := HRBE.out; omega))⟩
                clear hb4
                go_wp2_with fail
                with_reducible refine (expandNone_any mb macb 0 rb s1 _ HSZ.out HM4.out.1 HM4.out.2).mono ?_
                rintro e w5 ⟨rfl, hb5⟩
                have HB5a : Hid (Below rb w w5) := Lib.hid (HB4.out.trans (hb5.mono (by have := HB4.out.size; rw [HRBE.out] at this; exact this)))
                have HR5a : Hid (ResAt w5 rb (N + q) (r.puts q a.att)) := Lib.hid (HR4.out.kept (hb5.block rb (MapIs.lt HR4.out)))
                clear hb5
                go_wp2_with fail
                with_reducible refine (m_name s1 x1 v1 _).mono ?_
                rintro e w5b ⟨rfl, hb5⟩
                have HB5 : Hid (Below rb w w5b) := Lib.hid (HB5a.out.trans (hb5.mono (by have := HB5a.out.size; rw [HRBE.out] at this; exact this)))
                have HR5 : Hid (ResAt w5b rb (N + q) (r.puts q a.att)) := Lib.hid (HR5a.out.kept (hb5.block rb (MapIs.lt HR5a.out)))
                clear hb5
                have hsz := HSZ.out
                obtain ⟨D, ho, hd⟩ := HR5.out
                go_wp2_with (at_mapUpdate; refine wpList_mapUpdate_own _ rfl _ _ _ 100 rfl 9 92 strKeyed attMap RV rb (N + q) D rfl ho (by unfold maxLen; omega) _ _ (kl s1) rfl rfl (key_of s1 hsz) (.held (attrV (s1, x1, v1))) [] rfl ?_)
                intro w6 ho6 hg6
                have HR6 : Hid (ResAt w6 rb (N + (q + 1)) (r.puts (q + 1) a.att)) := Lib.hid (by
                  have h := MapIs.put ho hd ho6
                  rw [RM.puts_succ, HAQ.out]
                  unfold ResAt
                  rw [RM.val_put]
                  have hk : ((r.puts q a.att).put (s1, x1, v1)).K = if ((r.puts q a.att).val s1).isSome then (r.puts q a.att).K else (r.puts q a.att).K + 1 := by
                    unfold RM.put RM.val
                    dsimp only
                    cases (r.puts q a.att).M s1 <;> rfl
                  rw [hk]
                  exact h)
                have HB6 : Hid (Below rb w w6) := Lib.hid (HB5.out.grown hg6 (by have := HB5.out.size; rw [HRBE.out] at this; exact this) (fun k e => by injection e with e; omega))
                clear ho hd ho6 hg6 HR5 HB5
                go_wp2
                go_roundw
                case rel => exact ⟨q + 1, by omega, by go_num, HR6.out, HB6.out⟩
                case measure => simp [intOf]; omega
              · have q1 : ((x1 : Int) == 1) = false := beq_eq_false_iff_ne.mpr (by omega)
                rw [q1]
                clear hx
                go_wp2_with fail
                with_reducible refine (m_name s1 x1 v1 _).mono ?_
                rintro e w5b ⟨rfl, hb5⟩
                have HB5 : Hid (Below rb w w5b) := Lib.hid (HB3.out.trans (hb5.mono (by have := HB3.out.size; rw [HRBE.out] at this; exact this)))
                have HR5 : Hid (ResAt w5b rb (N + q) (r.puts q a.att)) := Lib.hid (HR3.out.kept (hb5.block rb (MapIs.lt HR3.out)))
                clear hb5
                have hsz := HSZ.out
                obtain ⟨D, ho, hd⟩ := HR5.out
                go_wp2_with (at_mapUpdate; refine wpList_mapUpdate_own _ rfl _ _ _ 100 rfl 9 92 strKeyed attMap RV rb (N + q) D rfl ho (by unfold maxLen; omega) _ _ (kl s1) rfl rfl (key_of s1 hsz) (.held (attrV (s1, x1, v1))) [] rfl ?_)
                intro w6 ho6 hg6
                have HR6 : Hid (ResAt w6 rb (N + (q + 1)) (r.puts (q + 1) a.att)) := Lib.hid (by
                  have h := MapIs.put ho hd ho6
                  rw [RM.puts_succ, HAQ.out]
                  unfold ResAt
                  rw [RM.val_put]
                  have hk : ((r.puts q a.att).put (s1, x1, v1)).K = if ((r.puts q a.att).val s1).isSome then (r.puts q a.att).K else (r.puts q a.att).K + 1 := by
                    unfold RM.put RM.val
                    dsimp only
                    cases (r.puts q a.att).M s1 <;> rfl
                  rw [hk]
                  exact h)
                have HB6 : Hid (Below rb w w6) := Lib.hid (HB5.out.grown hg6 (by have := HB5.out.size; rw [HRBE.out] at this; exact this) (fun k e => by injection e with e; omega))
                clear ho hd ho6 hg6 HR5 HB5
                go_wp2
                go_roundw
                case rel => exact ⟨q + 1, by omega, by go_num, HR6.out, HB6.out⟩
                case measure => simp [intOf]; omega
            · obtain rfl : q = a.n := by omega
              go_wp2
              go_roundw
              case rel => exact ⟨j, N + a.n, r.puts a.n a.att, true, by omega, rfl, rfl, by omega, HRES.out, HG2.out, HB.out⟩
              case measure => simp [intOf]
end Go.Proofs.YteipeagdflcjjaaDoor.Am
