/-
  No cell of these rows narrows 'for every input' (looked for: loops, veiled, ifaces, maps, wideKeys, modest, calm, conditions, laid).
  DERIVED. THE GIVEN ROWS OF THIS SEAT. 5 by the template 'for every input the law returns true; each argument reads behind the call as it read before'; 0 by the template 'total and deterministic' (their statements: YtdmkjfkdjhmpjaaTotals.lean).
  GIVEN WITH THE SEED: the statements are not yours to turn. If you find one false, say at which input.
  Laid BY PROGRAM, IN A SANDBOX (cutbox-rows.mjs): the forced cells as the released guide's own fill.sh prints them over the translation ea30d7585e617d20… (all of the seat's roots in one cut). By AI agents, Wed Nov 11 2026. No macro, syntax, notation, axiom, sorry.
-/
import Derived.Test.YtdmkjfkdjhmpjaaChecked
import GoSem.Claim
import GoSem.ClaimJoined
import GoSem.ClaimMapViews
import Derived.JoinedTies
import Derived.KernelRfl
namespace Go.Proofs.Ytdmkjfkdjhmpjaa
/- THE CELL 'sum', in the pinned program and in every row, IS THE sha256 OF THE DUMP (.gsa) THAT YtdmkjfkdjhmpjaaProg.lean LOADS. Nothing in Lean hashes anything: it is a label: what it is worth is what the hold of that sum in a sandbox is worth. -/
noncomputable def Try.pinned : Pinned := { name := "ytdmkjfkdjhmpjaa", sum := "ea30d7585e617d20d251ae7e8b0b54d52f89373a5c1f159f4b5cd49ae3d2388e", checked := Try.checked }
namespace Rows
def none {H : Type} : Left H := { results := [], args := [] }

/-- 'laws.FnDisguiseHFS': WHATEVER THE INPUT: true; the input reads as it did. -/
def fnDisguiseHFSSpec : ChangeSpec := { name := "fnDisguiseHFS", fn := fun _ => fun
  | [d1, d2] => { results := [.lit (.bool true)], args := [d1, d2] }
  | _ => none }
def fnDisguiseHFSRow : OpenClaim := { program := "ytdmkjfkdjhmpjaa", sum := "ea30d7585e617d20d251ae7e8b0b54d52f89373a5c1f159f4b5cd49ae3d2388e", func := "pub-filiation/laws.FnDisguiseHFS", spec := "fnDisguiseHFS", unfollowed := true, recurses := true, apart := false }
def FnDisguiseHFSSaid : Prop := fnDisguiseHFSRow.holds Try.pinned (OpenSpec.ofChange fnDisguiseHFSSpec)

/-- ITS FALSE NEIGHBOUR: 'it returns false'. Refute it at one input. -/
def fnDisguiseHFSWrong : ChangeSpec := { name := "fnDisguiseHFS", fn := fun _ => fun
  | [d1, d2] => { results := [.lit (.bool false)], args := [d1, d2] }
  | _ => none }
def FnDisguiseHFSWrongFalsely : Prop := fnDisguiseHFSRow.holds Try.pinned (OpenSpec.ofChange fnDisguiseHFSWrong)

/-- 'laws.FnDisguiseModules': WHATEVER THE INPUT: true; the input reads as it did. -/
def fnDisguiseModulesSpec : ChangeSpec := { name := "fnDisguiseModules", fn := fun _ => fun
  | [d1, d2, d3, d4] => { results := [.lit (.bool true)], args := [d1, d2, d3, d4] }
  | _ => none }
def fnDisguiseModulesRow : OpenClaim := { program := "ytdmkjfkdjhmpjaa", sum := "ea30d7585e617d20d251ae7e8b0b54d52f89373a5c1f159f4b5cd49ae3d2388e", func := "pub-filiation/laws.FnDisguiseModules", spec := "fnDisguiseModules", unfollowed := true, recurses := true, apart := false }
def FnDisguiseModulesSaid : Prop := fnDisguiseModulesRow.holds Try.pinned (OpenSpec.ofChange fnDisguiseModulesSpec)

/-- ITS FALSE NEIGHBOUR: 'it returns false'. Refute it at one input. -/
def fnDisguiseModulesWrong : ChangeSpec := { name := "fnDisguiseModules", fn := fun _ => fun
  | [d1, d2, d3, d4] => { results := [.lit (.bool false)], args := [d1, d2, d3, d4] }
  | _ => none }
def FnDisguiseModulesWrongFalsely : Prop := fnDisguiseModulesRow.holds Try.pinned (OpenSpec.ofChange fnDisguiseModulesWrong)

/-- 'laws.FnDisguiseNTFS': WHATEVER THE INPUT: true; the input reads as it did. -/
def fnDisguiseNTFSSpec : ChangeSpec := { name := "fnDisguiseNTFS", fn := fun _ => fun
  | [d1, d2, d3, d4] => { results := [.lit (.bool true)], args := [d1, d2, d3, d4] }
  | _ => none }
def fnDisguiseNTFSRow : OpenClaim := { program := "ytdmkjfkdjhmpjaa", sum := "ea30d7585e617d20d251ae7e8b0b54d52f89373a5c1f159f4b5cd49ae3d2388e", func := "pub-filiation/laws.FnDisguiseNTFS", spec := "fnDisguiseNTFS", unfollowed := true, recurses := true, apart := false }
def FnDisguiseNTFSSaid : Prop := fnDisguiseNTFSRow.holds Try.pinned (OpenSpec.ofChange fnDisguiseNTFSSpec)

/-- ITS FALSE NEIGHBOUR: 'it returns false'. Refute it at one input. -/
def fnDisguiseNTFSWrong : ChangeSpec := { name := "fnDisguiseNTFS", fn := fun _ => fun
  | [d1, d2, d3, d4] => { results := [.lit (.bool false)], args := [d1, d2, d3, d4] }
  | _ => none }
def FnDisguiseNTFSWrongFalsely : Prop := fnDisguiseNTFSRow.holds Try.pinned (OpenSpec.ofChange fnDisguiseNTFSWrong)

/-- 'laws.FnDisguiseName': WHATEVER THE INPUT: true; the input reads as it did. -/
def fnDisguiseNameSpec : ChangeSpec := { name := "fnDisguiseName", fn := fun _ => fun
  | [d1, d2] => { results := [.lit (.bool true)], args := [d1, d2] }
  | _ => none }
def fnDisguiseNameRow : OpenClaim := { program := "ytdmkjfkdjhmpjaa", sum := "ea30d7585e617d20d251ae7e8b0b54d52f89373a5c1f159f4b5cd49ae3d2388e", func := "pub-filiation/laws.FnDisguiseName", spec := "fnDisguiseName", unfollowed := true, recurses := true, apart := false }
def FnDisguiseNameSaid : Prop := fnDisguiseNameRow.holds Try.pinned (OpenSpec.ofChange fnDisguiseNameSpec)

/-- ITS FALSE NEIGHBOUR: 'it returns false'. Refute it at one input. -/
def fnDisguiseNameWrong : ChangeSpec := { name := "fnDisguiseName", fn := fun _ => fun
  | [d1, d2] => { results := [.lit (.bool false)], args := [d1, d2] }
  | _ => none }
def FnDisguiseNameWrongFalsely : Prop := fnDisguiseNameRow.holds Try.pinned (OpenSpec.ofChange fnDisguiseNameWrong)

/-- 'laws.FnSparse': WHATEVER THE INPUT: true; the input reads as it did. -/
def fnSparseSpec : ChangeSpec := { name := "fnSparse", fn := fun _ => fun
  | [d1, d2] => { results := [.lit (.bool true)], args := [d1, d2] }
  | _ => none }
def fnSparseRow : OpenClaim := { program := "ytdmkjfkdjhmpjaa", sum := "ea30d7585e617d20d251ae7e8b0b54d52f89373a5c1f159f4b5cd49ae3d2388e", func := "pub-filiation/laws.FnSparse", spec := "fnSparse", unfollowed := true, recurses := true, apart := false }
def FnSparseSaid : Prop := fnSparseRow.holds Try.pinned (OpenSpec.ofChange fnSparseSpec)

/-- ITS FALSE NEIGHBOUR: 'it returns false'. Refute it at one input. -/
def fnSparseWrong : ChangeSpec := { name := "fnSparse", fn := fun _ => fun
  | [d1, d2] => { results := [.lit (.bool false)], args := [d1, d2] }
  | _ => none }
def FnSparseWrongFalsely : Prop := fnSparseRow.holds Try.pinned (OpenSpec.ofChange fnSparseWrong)

/- THE SECOND FORM. 'bulk': how many values and letters a reading holds, each counted each time it is reached (what is shared counts as often as it is met; a slice's spare places count too). A statement '..UptoSaid' is the law's where the arguments, and the package variables that the reading takes, are together of bulk at most 1048576: NARROWER than '..Said'. Prove '..Said' where nothing that the law and all that it calls make is longer than what came in: it says more and counts as full. Else prove '..UptoSaid'. A law counts once. -/
mutual
def uptoBulk {H : Type} : DataW H → Nat
  | .lit (.string bytes) => bytes.length + 1
  | .lit _ => 1
  | .nil => 1
  | .ptr d => uptoBulk d + 1
  | .slice elems spare => uptoBulkAll elems + uptoBulkAll spare + 1
  | .agg parts => uptoBulkAll parts + 1
  | .iface _ d => uptoBulk d + 1
  | .map entries => uptoBulkEntries entries + 1
  | .held _ => 1
def uptoBulkAll {H : Type} : List (DataW H) → Nat
  | [] => 0
  | d :: r => uptoBulk d + uptoBulkAll r
def uptoBulkEntries {H : Type} : List (Lit × DataW H) → Nat
  | [] => 0
  | x :: r => uptoBulkEntry x + uptoBulkEntries r
def uptoBulkEntry {H : Type} : Lit × DataW H → Nat
  | (.string bytes, d) => bytes.length + uptoBulk d + 1
  | (_, d) => uptoBulk d + 1
 end
def uptoSmall : (H : Type) → List (DataW H) → Bool := fun _ ds => decide (uptoBulkAll ds ≤ 1048576)
def OpenSpec.upto (s : _root_.Go.ChangeSpec) : _root_.Go.OpenSpec := { _root_.Go.OpenSpec.ofChange s with cond := some uptoSmall }

/-- 'laws.FnDisguiseHFS', WHERE WHAT IT READS IS OF BULK AT MOST 1048576: true; the input reads as it did. -/
def fnDisguiseHFSUptoRow : OpenClaim := { program := "ytdmkjfkdjhmpjaa", sum := "ea30d7585e617d20d251ae7e8b0b54d52f89373a5c1f159f4b5cd49ae3d2388e", func := "pub-filiation/laws.FnDisguiseHFS", spec := "fnDisguiseHFS", unfollowed := true, recurses := true, apart := false, narrowed := true }
def FnDisguiseHFSUptoSaid : Prop := fnDisguiseHFSUptoRow.holds Try.pinned (OpenSpec.upto fnDisguiseHFSSpec)

/-- 'laws.FnDisguiseModules', WHERE WHAT IT READS IS OF BULK AT MOST 1048576: true; the input reads as it did. -/
def fnDisguiseModulesUptoRow : OpenClaim := { program := "ytdmkjfkdjhmpjaa", sum := "ea30d7585e617d20d251ae7e8b0b54d52f89373a5c1f159f4b5cd49ae3d2388e", func := "pub-filiation/laws.FnDisguiseModules", spec := "fnDisguiseModules", unfollowed := true, recurses := true, apart := false, narrowed := true }
def FnDisguiseModulesUptoSaid : Prop := fnDisguiseModulesUptoRow.holds Try.pinned (OpenSpec.upto fnDisguiseModulesSpec)

/-- 'laws.FnDisguiseNTFS', WHERE WHAT IT READS IS OF BULK AT MOST 1048576: true; the input reads as it did. -/
def fnDisguiseNTFSUptoRow : OpenClaim := { program := "ytdmkjfkdjhmpjaa", sum := "ea30d7585e617d20d251ae7e8b0b54d52f89373a5c1f159f4b5cd49ae3d2388e", func := "pub-filiation/laws.FnDisguiseNTFS", spec := "fnDisguiseNTFS", unfollowed := true, recurses := true, apart := false, narrowed := true }
def FnDisguiseNTFSUptoSaid : Prop := fnDisguiseNTFSUptoRow.holds Try.pinned (OpenSpec.upto fnDisguiseNTFSSpec)

/-- 'laws.FnDisguiseName', WHERE WHAT IT READS IS OF BULK AT MOST 1048576: true; the input reads as it did. -/
def fnDisguiseNameUptoRow : OpenClaim := { program := "ytdmkjfkdjhmpjaa", sum := "ea30d7585e617d20d251ae7e8b0b54d52f89373a5c1f159f4b5cd49ae3d2388e", func := "pub-filiation/laws.FnDisguiseName", spec := "fnDisguiseName", unfollowed := true, recurses := true, apart := false, narrowed := true }
def FnDisguiseNameUptoSaid : Prop := fnDisguiseNameUptoRow.holds Try.pinned (OpenSpec.upto fnDisguiseNameSpec)

/-- 'laws.FnSparse', WHERE WHAT IT READS IS OF BULK AT MOST 1048576: true; the input reads as it did. -/
def fnSparseUptoRow : OpenClaim := { program := "ytdmkjfkdjhmpjaa", sum := "ea30d7585e617d20d251ae7e8b0b54d52f89373a5c1f159f4b5cd49ae3d2388e", func := "pub-filiation/laws.FnSparse", spec := "fnSparse", unfollowed := true, recurses := true, apart := false, narrowed := true }
def FnSparseUptoSaid : Prop := fnSparseUptoRow.holds Try.pinned (OpenSpec.upto fnSparseSpec)

end Rows
end Go.Proofs.Ytdmkjfkdjhmpjaa
