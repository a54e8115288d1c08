/- AttrMatch where the lines tell one attribute or none. -/
import Derived.Test.YteipeagdflcjjaaDoorQAmL
import Derived.Test.YteipeagdflcjjaaDoorQPartD
namespace Go.Proofs.YteipeagdflcjjaaDoor.Am
open Go.RowKit
set_option linter.unusedSimpArgs false
set_option linter.unusedVariables false

def RO : Option AttrT → RM × Bool
  | none => (RM.empty, false)
  | some a => (RM.empty.put a, true)
/-- What is answered: nothing, or the one attribute. -/
def OnePost (o : Option AttrT) (w : World) (e : Ending) (w' : World) : Prop := match o with
  | none => ∃ A c, e = .returned (.tuple #[.slice A 0 c, .bool false, .string ⟨#[]⟩]) ∧ Below w.heap.size w w'
  | some a => ∃ g c, e = .returned (.tuple #[.slice (some ⟨g, 0, none⟩) 1 c, .bool true, .string ⟨#[]⟩]) ∧ g < w'.heap.size ∧ w'.cell? ⟨g, 0, none⟩ = some (.string a.1) ∧ w'.cell? ⟨g, 1, none⟩ = some (.string a.2.2) ∧ w'.cell? ⟨g, 2, none⟩ = some (.int .i64 (stN a.2.1 : Nat)) ∧ Below w.heap.size w w'
theorem one_of {o : Option AttrT} {w w' : World} {e : Ending} (h : AmPost (RO o).1 (RO o).2 w e w') : OnePost o w e w' := by
  obtain ⟨v, l, rfl, htold, hown, hb⟩ := h
  cases o with
  | none =>
    have hl := empty_told htold
    subst hl
    rcases hown.2 with ⟨rfl, _⟩ | ⟨g, cap, cur, rfl, _⟩
    · exact ⟨_, _, rfl, hb⟩
    · exact ⟨_, _, rfl, hb⟩
  | some a =>
    have hl := put_told htold
    subst hl
    rcases hown.2 with ⟨_, h⟩ | ⟨g, cap, cur, rfl, hbg, hg, _⟩
    · cases h
    · have hc := fun j v (hj : (out3 a)[j]? = some v) => hown.cells (g := g) rfl j v (by simpa using hj)
      have hadd : ∀ j, (⟨g, 0, none⟩ : Addr).add j = ⟨g, j, none⟩ := fun j => by unfold Addr.add; split <;> simp_all
      have h0 := hc 0 _ rfl
      have h1 := hc 1 _ rfl
      have h2 := hc 2 _ rfl
      rw [hadd] at h0 h1 h2
      exact ⟨g, _, rfl, (Array.getElem?_eq_some_iff.1 hg).1, h0, h1, h2, hb⟩
theorem RO_good (o : Option AttrT) : ∀ s a, (RO o).1.M s = some a → nb a.1 = nb s := by
  cases o with
  | none => intro s a h; cases h
  | some b => exact put_good b
theorem RO_one (o : Option AttrT) : (RO o).1.K ≤ 1 := by
  cases o with
  | none => exact Nat.zero_le _
  | some b => exact Nat.le_refl 1
theorem matchOne_any (text : ByteArray) (S : Spec) (o : Option AttrT) (at_ m : Nat → Nat) (dA pA nA : Option Addr) (dn dc pn pc nn nc : Nat) (d f nf : Nat → ByteArray) (allow : Bool) (ea : Addr) (msg : ByteArray) (w : World)
    (ht : 1 ≤ text.size ∧ text.size ≤ 2000) (hS : S.Ok) (hl : LinesAt (fun i => bx text i) text.size S.q at_ m)
    (hp : ∀ i, i < S.q → ∀ A c W, Calls Tryd.prog 40 #[.string (lineT (fun i => bx text i) (at_ i) (m i)), .slice A dn c, .bool allow] W (LinePost (S.says (.slice A dn c) i) W))
    (hE : ErrAt w 6 ea msg) (hd : Strs w dA dn d) (hdn : dn ≤ 100) (hpt : Strs w pA pn f) (hpn : 1 ≤ pn ∧ pn ≤ 100) (hnm : ∀ i, i < pn → Nm (f i)) (hn : Strs w nA nn nf) (hnn : nn ≤ 1000)
    (hR : mgoF nn (S.hit dn d pn f) S.cnt S.att S.q RM.empty false = RO o) :
    Calls Tryd.prog 29 #[.string text, .slice dA dn dc, .bool allow, .slice pA pn pc, .slice nA nn nc] w (OnePost o w) := by
  refine (attrMatch_any text S at_ m dA pA nA dn dc pn pc nn nc d f nf allow ea msg w ht hS hl hp hE hd hdn hpt hpn hnm hn hnn ?_ ?_).mono fun e w' h => ?_
  · rw [hR]; exact RO_good o
  · rw [hR]; exact RO_one o
  · rw [hR] at h; exact one_of h

/-! ## Several lines, each of one part and one attribute -/
theorem part_no47 {s : ByteArray} (h : GoodPart s) : ∀ c ∈ nb s, c ≠ 47 := fun c hc => ((PartOk.bytes (n := 2) (.inl h)).1 c hc).1
def linesSpec (n : Nat) (f0 : Nat → ByteArray) (g1 : Nat → AttrT) : Spec := ⟨n, f0, fun i => [f0 i], fun _ => 0, fun _ => 1, fun i _ => readOf (g1 i)⟩
theorem lines_ok {n : Nat} {f0 : Nat → ByteArray} {g1 : Nat → AttrT} (hn : n ≤ 5) (h : ∀ i, i < n → GoodLine (f0 i) (g1 i)) : (linesSpec n f0 g1).Ok := by
  refine ⟨Nat.le_trans hn (by decide), fun i _ => (by decide : 1 ≤ 1000), fun i hi j _ => ?_, fun i hi => ⟨⟨show 0 < 1 by decide, show 1 ≤ 10 by decide⟩, Nat.zero_le _, fun j hj => absurd hj (Nat.not_lt_zero _), fun j _ hj => ?_⟩⟩
  · show (g1 i).1.size ≤ maxLen
    have := (h i hi).attr.1.2.2
    unfold maxLen; omega
  · obtain rfl : j = 0 := by have : j < 1 := hj; omega
    exact ⟨(h i hi).part, (h i hi).dd⟩
theorem hit_one (p : ByteArray) (d : Nat → ByteArray) (pn : Nat) (f : Nat → ByteArray) (h : 1 ≤ pn) : hitB [p] 0 0 d pn f = MR p (f (pn - 1)) := by
  unfold hitB
  rw [decide_eq_true (by omega)]
  simp [pmL]
theorem lines_R (n : Nat) (f0 : Nat → ByteArray) (g1 : Nat → AttrT) (d : Nat → ByteArray) (pn : Nat) (f : Nat → ByteArray) (h : 1 ≤ pn) :
    mgoF 1 ((linesSpec n f0 g1).hit 0 d pn f) (linesSpec n f0 g1).cnt (linesSpec n f0 g1).att n RM.empty false = RO ((lastHit (fun i => MR (f0 i) (f (pn - 1))) n).map fun j => readOf (g1 j)) := by
  have e : (linesSpec n f0 g1).hit 0 d pn f = fun i => MR (f0 i) (f (pn - 1)) := funext fun i => hit_one (f0 i) d pn f h
  rw [e]
  refine (mgo_last _ _ n).trans ?_
  cases lastHit (fun i => MR (f0 i) (f (pn - 1))) n <;> rfl
theorem lines_read {text : ByteArray} {n i : Nat} {f0 : Nat → ByteArray} {g1 : Nat → AttrT} (ht : nb text = txt f0 g1 n) (h : ∀ i, i < n → GoodLine (f0 i) (g1 i)) (hi : i < n) (A : Option Addr) (c : Nat) (W : World) :
    Calls Tryd.prog 40 #[.string (lineT (fun i => bx text i) (txt f0 g1 i).length (lineN (f0 i) (g1 i)).length), .slice A 0 c, .bool false] W (LinePost ((linesSpec n f0 g1).says (.slice A 0 c) i) W) := by
  refine (readLine2 (h i hi) (line_text ht hi (h i hi)) false A 0 c W).mono fun e w' hl => ?_
  obtain ⟨a, h1, ⟨h2, h3, h4, p, h5, h6, h7⟩, h8⟩ := line_of_ok hl (by decide) (by have := (toks_spec (h i hi).part).2.2.1; omega)
  refine ⟨a, h1, ⟨h2, h3, h4, p, h5, h6, ?_⟩, h8⟩
  rw [h7, splitN_one _ (part_no47 (h i hi).part)]; rfl
theorem txt_len (f0 : Nat → ByteArray) (g1 : Nat → AttrT) : ∀ k, (∀ i, i < k → GoodLine (f0 i) (g1 i)) → k ≤ (txt f0 g1 k).length ∧ (txt f0 g1 k).length ≤ k * 80 := by
  intro k
  induction k with
  | zero => intro _; exact ⟨Nat.le_refl _, Nat.le_refl _⟩
  | succ k ih =>
    intro h
    obtain ⟨h1, h2⟩ := ih fun i hi => h i (by omega)
    have h3 := (gaText_len (h k (by omega)).attr).2
    have h4 := (toks_spec (h k (by omega)).part).2.2.2
    unfold txt lineN
    simp only [List.length_append, List.length_cons, List.length_nil, nb_length]
    omega
/-- Lines of one part each, asked for one name. -/
theorem matchLines_any (text : ByteArray) (n : Nat) (f0 f2 : Nat → ByteArray) (g1 : Nat → AttrT) (pA nA : Option Addr) (pn pc nc : Nat) (nf : Nat → ByteArray) (ea : Addr) (msg : ByteArray) (w : World)
    (hn : 1 ≤ n ∧ n ≤ 5) (ht : nb text = txt f0 g1 n) (h : ∀ i, i < n → GoodLine (f0 i) (g1 i)) (hE : ErrAt w 6 ea msg) (hpt : Strs w pA pn f2) (hpn : 1 ≤ pn ∧ pn ≤ 100) (hnm : ∀ i, i < pn → Nm (f2 i)) (hnf : Strs w nA 1 nf) :
    Calls Tryd.prog 29 #[.string text, .slice none 0 0, .bool false, .slice pA pn pc, .slice nA 1 nc] w (OnePost ((lastHit (fun i => MR (f0 i) (f2 (pn - 1))) n).map fun j => readOf (g1 j)) w) := by
  have hlen := txt_len f0 g1 n h
  rw [← ht, nb_length] at hlen
  exact matchOne_any text (linesSpec n f0 g1) _ _ _ none pA nA 0 0 pn pc 1 nc (fun _ => ⟨#[]⟩) f2 nf false ea msg w ⟨by omega, by omega⟩ (lines_ok hn.2 h) (lines_at ht h)
    (fun i hi A c W => lines_read ht h hi A c W) hE (fun i hi => absurd hi (Nat.not_lt_zero _)) (by decide) hpt hpn hnm hnf (by decide) (lines_R n f0 g1 _ pn f2 hpn.1)
end Go.Proofs.YteipeagdflcjjaaDoor.Am
