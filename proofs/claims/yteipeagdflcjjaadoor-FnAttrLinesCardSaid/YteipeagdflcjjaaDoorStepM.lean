/- Steps by hand through a region that draws its order: the operations that have come up as the bits of a number; what each one waits for, and whom it leaves alone, as numbers' bits too (printed by wip/masks.lean). -/
import Derived.Orders
import Derived.OrdersHeld
import Derived.Deep.RegionHeld
import Derived.Lib.Hide
namespace Go.Proofs.YteipeagdflcjjaaDoor
set_option linter.unusedSimpArgs false
set_option linter.unusedVariables false

def maskTs (md : Region.Mode) (ops : Array Oper) : List Nat := ops.toList.map fun o => ((o.after.toList.filter (Region.binds md)).map (·.on)).foldl (fun n d => n ||| 2 ^ d) 0
def maskAs (ops : Array Oper) : List Nat := ops.toList.map fun x => ops.toList.foldr (fun y n => 2 * n + (x.apart ops y).toNat) 0
def arrB (n m : Nat) : Array Bool := ((List.range n).map fun i => m.testBit i).toArray
theorem arrB_size (n m : Nat) : (arrB n m).size = n := by unfold arrB; simp
theorem arrB_getD (n m i : Nat) (h : i < n) (d : Bool) : (arrB n m).getD i d = m.testBit i := by
  unfold arrB
  simp [h]
theorem arrB_zero (n : Nat) : Array.replicate n false = arrB n 0 := by
  refine Array.ext (by rw [arrB_size]; simp) fun i h1 h2 => ?_
  unfold arrB
  simp
theorem testBit_or_pow (m i j : Nat) : (m ||| 2 ^ i).testBit j = (m.testBit j || (j == i)) := by
  rw [Nat.testBit_or, Nat.testBit_two_pow]
  congr 1
  by_cases h : i = j
  · subst h; simp
  · have : ¬ j = i := fun e => h e.symm
    simp [h, this]
theorem arrB_get (n m j : Nat) : (arrB n m)[j]? = if j < n then some (m.testBit j) else none := by
  unfold arrB
  by_cases h : j < n
  · rw [if_pos h]; simp [h]
  · rw [if_neg h]; simp; omega
theorem arrB_set (n m i : Nat) : (arrB n m).setIfInBounds i true = arrB n (m ||| 2 ^ i) := by
  apply Array.ext_getElem?
  intro j
  rw [Array.getElem?_setIfInBounds, arrB_get, arrB_get, arrB_size, testBit_or_pow]
  by_cases h : i = j
  · subst h
    rw [if_pos rfl]
    by_cases hn : i < n
    · rw [if_pos hn, if_pos hn]; simp
    · rw [if_neg hn, if_neg hn]
  · have : ¬ j = i := fun e => h e.symm
    rw [if_neg h, beq_eq_false_iff_ne.mpr this, Bool.or_false]
theorem foldl_or_bit (l : List Nat) : ∀ (n i : Nat), (l.foldl (fun n d => n ||| 2 ^ d) n).testBit i = (n.testBit i || l.contains i) := by
  induction l with
  | nil => intro n i; simp
  | cons d l ih =>
    intro n i
    rw [List.foldl_cons, ih, testBit_or_pow, List.contains_cons, Bool.or_assoc]
theorem foldr_bits (p : Oper → Bool) : ∀ (l : List Oper) (i : Nat), (l.foldr (fun y n => 2 * n + (p y).toNat) 0).testBit i = ((l[i]?).map p).getD false := by
  intro l
  induction l with
  | nil => intro i; simp
  | cons x l ih =>
    intro i
    rw [List.foldr_cons]
    cases i with
    | zero =>
      cases hp : p x <;> simp [hp, Nat.testBit_zero] <;> omega
    | succ i =>
      rw [Nat.testBit_succ]
      have : (2 * l.foldr (fun y n => 2 * n + (p y).toNat) 0 + (p x).toNat) / 2 = l.foldr (fun y n => 2 * n + (p y).toNat) 0 := by
        cases p x <;> simp <;> omega
      rw [this, ih]
      simp
/-- The masks fit: no operation waits for one that is not there. -/
def fitM (n : Nat) (T : List Nat) : Bool := T.all fun t => decide (t < 2 ^ n)
theorem fitM_spec {n : Nat} {T : List Nat} (h : fitM n T = true) : ∀ i, i < n → T.getD i 0 < 2 ^ n := fun i _ => by
  unfold fitM at h
  rw [List.all_eq_true] at h
  rw [List.getD_eq_getElem?_getD]
  cases hi : T[i]? with
  | none => exact Nat.two_pow_pos n
  | some t => exact of_decide_eq_true (h t (List.mem_of_getElem? hi))
structure RegM (md : Region.Mode) (ops : Array Oper) (n : Nat) (T A : List Nat) : Prop where
  size : ops.size = n
  deps : maskTs md ops = T
  alone : maskAs ops = A
  plain : Region.noSelect ops = true
  fit : fitM n T = true
def readyM (T : List Nat) (m i : Nat) : Bool := !m.testBit i && ((T.getD i 0 &&& m) == T.getD i 0)
def freeM (n : Nat) (T A : List Nat) (m i : Nat) : Bool := (List.range n).all fun j => j == i || m.testBit j || (T.getD j 0).testBit i || (A.getD i 0).testBit j
section
variable {P : Program} {md : Region.Mode} {ops : Array Oper} {Q : Exit → Act → World → Prop} {S : World → Prop} {n : Nat} {T A : List Nat}
theorem RegM.dep (R : RegM md ops n T A) (i : Nat) (h : i < ops.size) (d : Nat) : (T.getD i 0).testBit d = ((ops[i].after.toList.filter (Region.binds md)).map (·.on)).contains d := by
  rw [← R.deps]
  unfold maskTs
  rw [List.getD_eq_getElem?_getD, List.getElem?_map]
  simp only [Array.getElem?_toList, Array.getElem?_eq_getElem h, Option.map_some, Option.getD_some]
  rw [foldl_or_bit]; simp
theorem RegM.apart (R : RegM md ops n T A) (i j : Nat) (h : i < ops.size) (hj : j < ops.size) : (A.getD i 0).testBit j = ops[i].apart ops ops[j] := by
  rw [← R.alone]
  unfold maskAs
  rw [List.getD_eq_getElem?_getD, List.getElem?_map]
  simp only [Array.getElem?_toList, Array.getElem?_eq_getElem h, Option.map_some, Option.getD_some]
  rw [foldr_bits]
  simp [hj]
theorem and_eq_iff (t m : Nat) : ((t &&& m) == t) = true ↔ ∀ d, t.testBit d = true → m.testBit d = true := by
  rw [beq_iff_eq]
  constructor
  · intro h d hd
    rw [← h, Nat.testBit_and, Bool.and_eq_true] at hd
    exact hd.2
  · intro h
    refine Nat.eq_of_testBit_eq fun d => ?_
    rw [Nat.testBit_and]
    cases hd : t.testBit d with
    | false => rfl
    | true => rw [h d hd]; rfl
theorem RegM.ready (R : RegM md ops n T A) (m i : Nat) (hd : ∀ i, i < n → (T.getD i 0) < 2 ^ n) : i ∈ Region.ready md ops (arrB n m) ↔ i < n ∧ readyM T m i = true := by
  rw [mem_ready]
  unfold readyM
  rw [Bool.and_eq_true, Bool.not_eq_true', and_eq_iff]
  constructor
  · rintro ⟨h1, o, ho, h2⟩
    obtain ⟨hlt, rfl⟩ := Array.getElem?_eq_some_iff.mp ho
    have hn : i < n := by rw [← R.size]; exact hlt
    rw [arrB_getD n m i hn] at h1
    refine ⟨hn, h1, fun d hb => ?_⟩
    have hdn : d < n := by
      refine Nat.lt_of_not_le fun hge => ?_
      rw [Nat.testBit_lt_two_pow (Nat.lt_of_lt_of_le (hd i hn) (Nat.pow_le_pow_right (by decide) hge))] at hb
      cases hb
    rw [R.dep i hlt, List.contains_iff_mem, List.mem_map] at hb
    obtain ⟨e, he, rfl⟩ := hb
    rw [List.mem_filter] at he
    have := h2 e (by simpa using he.1) he.2
    rwa [arrB_getD n m e.on hdn] at this
  · rintro ⟨hn, h1, h2⟩
    have hlt : i < ops.size := by rw [R.size]; exact hn
    refine ⟨by rw [arrB_getD n m i hn]; exact h1, ops[i], Array.getElem?_eq_getElem hlt, fun e he hb => ?_⟩
    have hbit : (T.getD i 0).testBit e.on = true := by
      rw [R.dep i hlt, List.contains_iff_mem, List.mem_map]
      exact ⟨e, List.mem_filter.mpr ⟨by simpa using he, hb⟩, rfl⟩
    have hen : e.on < n := by
      refine Nat.lt_of_not_le fun hge => ?_
      rw [Nat.testBit_lt_two_pow (Nat.lt_of_lt_of_le (hd i hn) (Nat.pow_le_pow_right (by decide) hge))] at hbit
      cases hbit
    rw [arrB_getD n m e.on hen]
    exact h2 _ hbit
theorem RegM.free (R : RegM md ops n T A) (m i : Nat) (hn : i < n) (hf : freeM n T A m i = true) : Region.free md ops (arrB n m) i = true := by
  have hlt : i < ops.size := by rw [R.size]; exact hn
  unfold Region.free
  rw [Array.getElem?_eq_getElem hlt]
  unfold freeM at hf
  simp only [List.all_eq_true, List.mem_range] at hf ⊢
  intro j hj
  have hjn : j < n := by rw [← R.size]; exact hj
  have h1 := hf j hjn
  rw [R.dep j hj, R.apart i j hlt hj] at h1
  rw [Array.getElem?_eq_getElem hj, arrB_getD n m j hjn]
  simp only [Bool.or_eq_true] at h1 ⊢
  rcases h1 with ((h1 | h1) | h1) | h1
  · exact .inl (.inl h1)
  · exact .inl (.inr h1)
  · right; left
    rw [List.contains_iff_mem, List.mem_map] at h1
    obtain ⟨e, he, rfl⟩ := h1
    rw [List.mem_filter] at he
    rw [Array.any_eq_true']
    exact ⟨e, by simpa using he.1, by simp [he.2]⟩
  · right; right; exact h1
theorem RegM.contains (R : RegM md ops n T A) (m i : Nat) (hn : i < n) (hr : readyM T m i = true) : (Region.ready md ops (arrB n m)).contains i = true := by
  rw [List.contains_iff_mem]
  exact (R.ready m i (fitM_spec R.fit)).mpr ⟨hn, hr⟩
theorem RegM.list (R : RegM md ops n T A) (m : Nat) {rs : List Nat} (h : (List.range n).filter (readyM T m) = rs) : Region.ready md ops (arrB n m) = rs := by
  rw [← h]
  have e : Region.ready md ops (arrB n m) = (List.range ops.size).filter fun i => decide (i ∈ Region.ready md ops (arrB n m)) := by
    conv => lhs; unfold Region.ready
    refine List.filter_congr fun i hi => ?_
    rw [Bool.eq_iff_iff, decide_eq_true_iff]
    unfold Region.ready
    rw [List.mem_filter]
    exact ⟨fun h => ⟨hi, h⟩, fun h => h.2⟩
  rw [e, R.size]
  refine List.filter_congr fun i hi => ?_
  rw [List.mem_range] at hi
  rw [Bool.eq_iff_iff, decide_eq_true_iff, R.ready m i (fitM_spec R.fit)]
  exact ⟨fun h => h.2, fun h => ⟨hi, h⟩⟩
theorem takeM (R : RegM md ops n T A) {m m2 i : Nat} {oi : Oper} {v : Value} {fuel : Nat} {a : Act} {w : World} (hi : ops[i]? = some oi) (hc : (freeM n T A m i && readyM T m i && (m ||| 2 ^ i == m2)) = true)
    (hQ : ∀ c a w, Q (.panic c) (a.put oi.dst v) w → Q (.panic c) a w) (hy : Yields P ops oi v a) (h : wpAny P md ops Q fuel (arrB n m2) (a.put oi.dst v) w) : wpAny P md ops Q (fuel + 1) (arrB n m) a w := by
  simp only [Bool.and_eq_true, beq_iff_eq] at hc
  obtain ⟨⟨h1, h2⟩, h3⟩ := hc
  have hn : i < n := by rw [← R.size]; exact (Array.getElem?_eq_some_iff.mp hi).1
  exact wpAny_take hi R.plain (R.free m i hn h1) (R.contains m i hn h2) hQ hy (by rw [arrB_set, h3]; exact h)
theorem takeMH (R : RegM md ops n T A) {m m2 i : Nat} {oi : Oper} {v : Value} {fuel : Nat} {a : Act} {w : World} (hi : ops[i]? = some oi) (hc : (freeM n T A m i && readyM T m i && (m ||| 2 ^ i == m2)) = true)
    (hQ : ∀ c a w, Q (.panic c) (a.put oi.dst v) w → Q (.panic c) a w) (hy : YieldsIf P ops S oi v a) (hS : S w) (h : wpAnyH P md ops Q S fuel (arrB n m2) (a.put oi.dst v) w) : wpAnyH P md ops Q S (fuel + 1) (arrB n m) a w := by
  simp only [Bool.and_eq_true, beq_iff_eq] at hc
  obtain ⟨⟨h1, h2⟩, h3⟩ := hc
  have hn : i < n := by rw [← R.size]; exact (Array.getElem?_eq_some_iff.mp hi).1
  exact wpAnyH_take hi R.plain (R.free m i hn h1) (R.contains m i hn h2) hQ hy hS (by rw [arrB_set, h3]; exact h)
/-- At the beginning, and behind a call. -/
theorem startR {fuel : Nat} {a : Act} {w : World} (R : RegM md ops n T A) (h : RowKit.Hid (RegM md ops n T A) → wpAny P md ops Q fuel (arrB n 0) a w) : wpAny P md ops Q fuel (Array.replicate ops.size false) a w := by
  rw [R.size, arrB_zero]; exact h (Lib.hid R)
theorem startRH {fuel : Nat} {a : Act} {w : World} (R : RegM md ops n T A) (h : RowKit.Hid (RegM md ops n T A) → wpAnyH P md ops Q S fuel (arrB n 0) a w) : wpAnyH P md ops Q S fuel (Array.replicate ops.size false) a w := by
  rw [R.size, arrB_zero]; exact h (Lib.hid R)
theorem startM {fuel : Nat} {a : Act} {w : World} (hn : ops.size = n) (h : wpAny P md ops Q fuel (arrB n 0) a w) : wpAny P md ops Q fuel (Array.replicate ops.size false) a w := by
  rw [hn, arrB_zero]; exact h
theorem startMH {fuel : Nat} {a : Act} {w : World} (hn : ops.size = n) (h : wpAnyH P md ops Q S fuel (arrB n 0) a w) : wpAnyH P md ops Q S fuel (Array.replicate ops.size false) a w := by
  rw [hn, arrB_zero]; exact h
theorem behindM {m i m2 fuel : Nat} {a : Act} {w : World} (hm : (m ||| 2 ^ i == m2) = true) (h : wpAny P md ops Q fuel (arrB n m2) a w) : wpAny P md ops Q fuel ((arrB n m).setIfInBounds i true) a w := by
  rw [arrB_set, beq_iff_eq.mp hm]; exact h
theorem behindMH {m i m2 fuel : Nat} {a : Act} {w : World} (hm : (m ||| 2 ^ i == m2) = true) (h : wpAnyH P md ops Q S fuel (arrB n m2) a w) : wpAnyH P md ops Q S fuel ((arrB n m).setIfInBounds i true) a w := by
  rw [arrB_set, beq_iff_eq.mp hm]; exact h
end
end Go.Proofs.YteipeagdflcjjaaDoor
