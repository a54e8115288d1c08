/- A string's code points as a list of numbers; the row that '[]rune(s)' makes. -/
import Derived.Test.YteipeagdflcjjaaDoorLow
import Derived.Lib.OthersKept
import Derived.Laws.IdiomStrings
namespace Go.Proofs.YteipeagdflcjjaaDoor
open Go.RowKit

/-- The code points from byte i on. -/
def runesN (s : ByteArray) : (bound i : Nat) → List Nat
  | 0, _ => []
  | bound + 1, i => if i < s.size then (Utf8.decode s i).1 :: runesN s bound (i + (Utf8.decode s i).2) else []
def runes (s : ByteArray) : List Nat := runesN s s.size 0

theorem runesFrom_eq (s : ByteArray) : ∀ (bound i : Nat) (acc : Array Value), Conv.runesFrom s bound i acc = acc ++ ((runesN s bound i).map fun r : Nat => Value.int .i32 (r : Int)).toArray
  | 0, _, acc => by simp [Conv.runesFrom, runesN]
  | bound + 1, i, acc => by
    unfold Conv.runesFrom runesN
    by_cases h : i < s.size
    · rw [if_pos h, if_pos h]
      simp only
      rw [runesFrom_eq s bound]
      simp
    · rw [if_neg h, if_neg h]; simp

theorem decode_small (s : ByteArray) (i : Nat) : (Utf8.decode s i).1 < 1114112 := by
  have hb : ∀ k, (s.get! (i + k)).toNat < 256 := fun k => UInt8.toNat_lt _
  have h0 := hb 0; have h1 := hb 1; have h2 := hb 2; have h3 := hb 3
  simp only [Utf8.decode]
  repeat' split
  all_goals simp_all [Utf8.runeError, Utf8.valid]
  all_goals omega

theorem runesN_lt (s : ByteArray) : ∀ (bound i : Nat), ∀ c ∈ runesN s bound i, c < 1114112
  | 0, _ => by simp [runesN]
  | bound + 1, i => by
    unfold runesN
    split
    · intro c hc
      rcases List.mem_cons.mp hc with rfl | hc
      · exact decode_small s i
      · exact runesN_lt s bound _ c hc
    · simp

theorem runesN_length (s : ByteArray) : ∀ (bound i : Nat), (runesN s bound i).length ≤ bound
  | 0, _ => by simp [runesN]
  | bound + 1, i => by
    unfold runesN
    split
    · have := runesN_length s bound (i + (Utf8.decode s i).2); simp; omega
    · simp

/-- The cells of a block from 0 on are these numbers. -/
def RunesAt (w : World) (b : Nat) (R : List Nat) : Prop := ∀ i, i < R.length → w.cell? ⟨b, i, none⟩ = some (.int .i32 (R.getD i 0 : Nat))

theorem RunesAt.below {w w' : World} {b B : Nat} {R : List Nat} (h : RunesAt w b R) (hb : Below B w w') (hB : b < B) : RunesAt w' b R :=
  fun i hi => (hb.cell (p := ⟨b, i, none⟩) hB).trans (h i hi)

theorem runeKind : Tryd.prog.underlying 21 = some (.int .i32) := by kernel_rfl
theorem runesKind : Tryd.prog.underlying 164 = some (.slice 21) := by kernel_rfl

/-- '[]rune(s)': a new row of the code points. -/
theorem run_runes (w : World) (s : ByteArray) (hs : s.size ≤ 70368744177664) :
    ∃ cap w1, (convert 9 164 (.string s)).run Tryd.prog w = .ok (.slice (some ⟨w.heap.size, 0, none⟩) (runes s).length cap) w1 ∧ Below w.heap.size w w1 ∧ w1.heap.size = w.heap.size + 1 ∧ RunesAt w1 w.heap.size (runes s) := by
  have e := runesFrom_eq s s.size 0 #[]
  have hl := runesN_length s s.size 0
  have h := run_runes_of_string (P := Tryd.prog) w 9 164 21 s strKind runesKind runeKind (by rw [e]; simp; omega)
  rw [e] at h
  simp only [List.size_toArray, List.length_map, Array.empty_append] at h
  refine ⟨_, _, h, ((Below.refl _ _).drew.alloc (Nat.le_refl _) _), by simp, fun i hi => ?_⟩
  have hi' : i < (runesN s s.size 0).length := hi
  refine (World.cell?_alloc_mark w.drew _ _ _ _).trans ?_
  rw [Array.getElem?_append_left (by simpa using hi')]
  simp [hi', runes]

end Go.Proofs.YteipeagdflcjjaaDoor
