/-
  NARROWER THAN 'FOR EVERY INPUT', by the rows' own cells (each row's printed sentence says how): FnLeb: laid · FnOffsets: laid · FnDeltaChain: laid.
  DERIVED. THE GIVEN ROWS OF THIS SEAT. 3 by the template 'for every input the law returns true; each argument reads behind the call as it read before'; 0 by the template 'total and deterministic' (their statements: YtgibmkgibkhemaaDoorTotals.lean).
  GIVEN WITH THE SEED: the statements are not yours to turn. If you find one false, say at which input.
  Laid BY PROGRAM, IN A SANDBOX (cutbox-rows.mjs): the forced cells as the released guide's own fill.sh prints them over the translation 22ea348939f210b5… (all of the seat's roots in one cut). By AI agents, Wed Nov 11 2026. No macro, syntax, notation, axiom, sorry.
-/
import Derived.Test.YtgibmkgibkhemaaDoorChecked
import GoSem.Claim
import GoSem.ClaimJoined
import GoSem.ClaimMapViews
import Derived.JoinedTies
import Derived.KernelRfl
namespace Go.Proofs.YtgibmkgibkhemaaDoor
/- THE CELL 'sum', in the pinned program and in every row, IS THE sha256 OF THE DUMP (.gsa) THAT YtgibmkgibkhemaaDoorProg.lean LOADS. Nothing in Lean hashes anything: it is a label: what it is worth is what the hold of that sum in a sandbox is worth. -/
noncomputable def Tryd.pinned : Pinned := { name := "ytgibmkgibkhemaadoor", sum := "22ea348939f210b56f08901f53313432b652f658cf39cd5446f56fa75c5630bb", checked := Tryd.checked }
namespace Rows
def none {H : Type} : Left H := { results := [], args := [] }

/- WHAT THE LISTED PACKAGE-LEVEL VARIABLES READ AS WHEN THE CALL BEGINS. Each datum BY PROGRAM (the guide's laid-datum.mjs) off the statement by which the dump's own 'gosem.cut.vars' lays the variable. In a bare row this is a premise. The card (YtgibmkgibkhemaaDoorCards.lean) ties it to the program's text. -/
def laid_bytes_ErrTooLarge {H : Type} : DataW H := .iface "*errors.errorString" (.ptr (.agg [.lit (.string [98, 121, 116, 101, 115, 46, 66, 117, 102, 102, 101, 114, 58, 32, 116, 111, 111, 32, 108, 97, 114, 103, 101])]))
def laid_pub_filiation_pub_gogit_packfile_ErrInvalidDelta {H : Type} : DataW H := .iface "*errors.errorString" (.ptr (.agg [.lit (.string [105, 110, 118, 97, 108, 105, 100, 32, 100, 101, 108, 116, 97])]))
def laid_pub_filiation_pub_gogit_packfile_ErrDeltaCmd {H : Type} : DataW H := .iface "*errors.errorString" (.ptr (.agg [.lit (.string [119, 114, 111, 110, 103, 32, 100, 101, 108, 116, 97, 32, 99, 111, 109, 109, 97, 110, 100])]))
def laid_pub_filiation_pub_gogit_packfile_ErrLengthOverflow {H : Type} : DataW H := .iface "*errors.errorString" (.ptr (.agg [.lit (.string [118, 97, 114, 105, 97, 98, 108, 101, 45, 108, 101, 110, 103, 116, 104, 32, 105, 110, 116, 101, 103, 101, 114, 32, 111, 118, 101, 114, 102, 108, 111, 119])]))
def laid_io_ErrShortBuffer {H : Type} : DataW H := .iface "*errors.errorString" (.ptr (.agg [.lit (.string [115, 104, 111, 114, 116, 32, 98, 117, 102, 102, 101, 114])]))
def laid_io_EOF {H : Type} : DataW H := .iface "*errors.errorString" (.ptr (.agg [.lit (.string [69, 79, 70])]))
def laid_io_ErrUnexpectedEOF {H : Type} : DataW H := .iface "*errors.errorString" (.ptr (.agg [.lit (.string [117, 110, 101, 120, 112, 101, 99, 116, 101, 100, 32, 69, 79, 70])]))
def laid_pub_filiation_pub_gogit_binary_ErrIntegerOverflow {H : Type} : DataW H := .iface "*errors.errorString" (.ptr (.agg [.lit (.string [118, 97, 114, 105, 97, 98, 108, 101, 45, 119, 105, 100, 116, 104, 32, 105, 110, 116, 101, 103, 101, 114, 32, 111, 118, 101, 114, 102, 108, 111, 119])]))
def laid_pub_filiation_pub_gogit_binary_zzErrType {H : Type} : DataW H := .iface "*errors.errorString" (.ptr (.agg [.lit (.string [98, 105, 110, 97, 114, 121, 58, 32, 97, 32, 116, 121, 112, 101, 32, 116, 104, 97, 116, 32, 105, 115, 32, 110, 111, 116, 32, 97, 115, 107, 101, 100])]))

/-- 'laws.FnLeb': WHATEVER THE INPUT: true; the input reads as it did. -/
def fnLebSpec : ChangeSpec := { name := "fnLeb", fn := fun _ => fun
  | [d1, d2] => { results := [.lit (.bool true)], args := [d1, d2] }
  | _ => none }
def fnLebRow : OpenClaim := { program := "ytgibmkgibkhemaadoor", sum := "22ea348939f210b56f08901f53313432b652f658cf39cd5446f56fa75c5630bb", func := "pub-filiation/laws.FnLeb", spec := "fnLeb", unfollowed := true, recurses := true, named := ["pub-filiation/pub/gogit/packfile.ErrInvalidDelta", "pub-filiation/pub/gogit/packfile.ErrDeltaCmd", "pub-filiation/pub/gogit/packfile.ErrLengthOverflow", "bytes.ErrTooLarge"], apart := false, laid := [("bytes.ErrTooLarge", laid_bytes_ErrTooLarge), ("pub-filiation/pub/gogit/packfile.ErrInvalidDelta", laid_pub_filiation_pub_gogit_packfile_ErrInvalidDelta), ("pub-filiation/pub/gogit/packfile.ErrDeltaCmd", laid_pub_filiation_pub_gogit_packfile_ErrDeltaCmd), ("pub-filiation/pub/gogit/packfile.ErrLengthOverflow", laid_pub_filiation_pub_gogit_packfile_ErrLengthOverflow)] }
def FnLebSaid : Prop := fnLebRow.holds Tryd.pinned (OpenSpec.ofChange fnLebSpec)

/-- ITS FALSE NEIGHBOUR: 'it returns false'. Refute it at one input. -/
def fnLebWrong : ChangeSpec := { name := "fnLeb", fn := fun _ => fun
  | [d1, d2] => { results := [.lit (.bool false)], args := [d1, d2] }
  | _ => none }
def FnLebWrongFalsely : Prop := fnLebRow.holds Tryd.pinned (OpenSpec.ofChange fnLebWrong)

/-- 'laws.FnOffsets': WHATEVER THE INPUT: true; the input reads as it did. -/
def fnOffsetsSpec : ChangeSpec := { name := "fnOffsets", fn := fun _ => fun
  | [d1, d2, d3] => { results := [.lit (.bool true)], args := [d1, d2, d3] }
  | _ => none }
def fnOffsetsRow : OpenClaim := { program := "ytgibmkgibkhemaadoor", sum := "22ea348939f210b56f08901f53313432b652f658cf39cd5446f56fa75c5630bb", func := "pub-filiation/laws.FnOffsets", spec := "fnOffsets", unfollowed := true, recurses := true, named := ["pub-filiation/pub/gogit/packfile.ErrInvalidDelta", "pub-filiation/pub/gogit/packfile.ErrDeltaCmd", "pub-filiation/pub/gogit/packfile.ErrLengthOverflow", "bytes.ErrTooLarge", "pub-filiation/pub/gogit/binary.ErrIntegerOverflow", "pub-filiation/pub/gogit/binary.zzErrType", "io.ErrShortBuffer", "io.EOF", "io.ErrUnexpectedEOF"], apart := false, laid := [("io.ErrShortBuffer", laid_io_ErrShortBuffer), ("io.EOF", laid_io_EOF), ("io.ErrUnexpectedEOF", laid_io_ErrUnexpectedEOF), ("bytes.ErrTooLarge", laid_bytes_ErrTooLarge), ("pub-filiation/pub/gogit/binary.ErrIntegerOverflow", laid_pub_filiation_pub_gogit_binary_ErrIntegerOverflow), ("pub-filiation/pub/gogit/binary.zzErrType", laid_pub_filiation_pub_gogit_binary_zzErrType), ("pub-filiation/pub/gogit/packfile.ErrInvalidDelta", laid_pub_filiation_pub_gogit_packfile_ErrInvalidDelta), ("pub-filiation/pub/gogit/packfile.ErrDeltaCmd", laid_pub_filiation_pub_gogit_packfile_ErrDeltaCmd), ("pub-filiation/pub/gogit/packfile.ErrLengthOverflow", laid_pub_filiation_pub_gogit_packfile_ErrLengthOverflow)] }
def FnOffsetsSaid : Prop := fnOffsetsRow.holds Tryd.pinned (OpenSpec.ofChange fnOffsetsSpec)

/-- ITS FALSE NEIGHBOUR: 'it returns false'. Refute it at one input. -/
def fnOffsetsWrong : ChangeSpec := { name := "fnOffsets", fn := fun _ => fun
  | [d1, d2, d3] => { results := [.lit (.bool false)], args := [d1, d2, d3] }
  | _ => none }
def FnOffsetsWrongFalsely : Prop := fnOffsetsRow.holds Tryd.pinned (OpenSpec.ofChange fnOffsetsWrong)

/-- 'laws.FnDeltaChain': WHATEVER THE INPUT: true; the input reads as it did. -/
def fnDeltaChainSpec : ChangeSpec := { name := "fnDeltaChain", fn := fun _ => fun
  | [d] => { results := [.lit (.bool true)], args := [d] }
  | _ => none }
def fnDeltaChainRow : OpenClaim := { program := "ytgibmkgibkhemaadoor", sum := "22ea348939f210b56f08901f53313432b652f658cf39cd5446f56fa75c5630bb", func := "pub-filiation/laws.FnDeltaChain", spec := "fnDeltaChain", unfollowed := true, recurses := true, named := ["pub-filiation/pub/gogit/packfile.ErrInvalidDelta", "pub-filiation/pub/gogit/packfile.ErrDeltaCmd", "pub-filiation/pub/gogit/packfile.ErrLengthOverflow", "bytes.ErrTooLarge"], apart := false, laid := [("bytes.ErrTooLarge", laid_bytes_ErrTooLarge), ("pub-filiation/pub/gogit/packfile.ErrInvalidDelta", laid_pub_filiation_pub_gogit_packfile_ErrInvalidDelta), ("pub-filiation/pub/gogit/packfile.ErrDeltaCmd", laid_pub_filiation_pub_gogit_packfile_ErrDeltaCmd), ("pub-filiation/pub/gogit/packfile.ErrLengthOverflow", laid_pub_filiation_pub_gogit_packfile_ErrLengthOverflow)] }
def FnDeltaChainSaid : Prop := fnDeltaChainRow.holds Tryd.pinned (OpenSpec.ofChange fnDeltaChainSpec)

/-- ITS FALSE NEIGHBOUR: 'it returns false'. Refute it at one input. -/
def fnDeltaChainWrong : ChangeSpec := { name := "fnDeltaChain", fn := fun _ => fun
  | [d] => { results := [.lit (.bool false)], args := [d] }
  | _ => none }
def FnDeltaChainWrongFalsely : Prop := fnDeltaChainRow.holds Tryd.pinned (OpenSpec.ofChange fnDeltaChainWrong)

/- THE SECOND FORM. 'bulk': how many values and letters a reading holds, each counted each time it is reached (what is shared counts as often as it is met; a slice's spare places count too). A statement '..UptoSaid' is the law's where the arguments, and the package variables that the reading takes, are together of bulk at most 1048576: NARROWER than '..Said'. Prove '..Said' where nothing that the law and all that it calls make is longer than what came in: it says more and counts as full. Else prove '..UptoSaid'. A law counts once. -/
mutual
def uptoBulk {H : Type} : DataW H → Nat
  | .lit (.string bytes) => bytes.length + 1
  | .lit _ => 1
  | .nil => 1
  | .ptr d => uptoBulk d + 1
  | .slice elems spare => uptoBulkAll elems + uptoBulkAll spare + 1
  | .agg parts => uptoBulkAll parts + 1
  | .iface _ d => uptoBulk d + 1
  | .map entries => uptoBulkEntries entries + 1
  | .held _ => 1
def uptoBulkAll {H : Type} : List (DataW H) → Nat
  | [] => 0
  | d :: r => uptoBulk d + uptoBulkAll r
def uptoBulkEntries {H : Type} : List (Lit × DataW H) → Nat
  | [] => 0
  | x :: r => uptoBulkEntry x + uptoBulkEntries r
def uptoBulkEntry {H : Type} : Lit × DataW H → Nat
  | (.string bytes, d) => bytes.length + uptoBulk d + 1
  | (_, d) => uptoBulk d + 1
 end
def uptoSmall : (H : Type) → List (DataW H) → Bool := fun _ ds => decide (uptoBulkAll ds ≤ 1048576)
def OpenSpec.upto (s : _root_.Go.ChangeSpec) : _root_.Go.OpenSpec := { _root_.Go.OpenSpec.ofChange s with cond := some uptoSmall }

/-- 'laws.FnLeb', WHERE WHAT IT READS IS OF BULK AT MOST 1048576: true; the input reads as it did. -/
def fnLebUptoRow : OpenClaim := { program := "ytgibmkgibkhemaadoor", sum := "22ea348939f210b56f08901f53313432b652f658cf39cd5446f56fa75c5630bb", func := "pub-filiation/laws.FnLeb", spec := "fnLeb", unfollowed := true, recurses := true, named := ["pub-filiation/pub/gogit/packfile.ErrInvalidDelta", "pub-filiation/pub/gogit/packfile.ErrDeltaCmd", "pub-filiation/pub/gogit/packfile.ErrLengthOverflow", "bytes.ErrTooLarge"], apart := false, laid := [("bytes.ErrTooLarge", laid_bytes_ErrTooLarge), ("pub-filiation/pub/gogit/packfile.ErrInvalidDelta", laid_pub_filiation_pub_gogit_packfile_ErrInvalidDelta), ("pub-filiation/pub/gogit/packfile.ErrDeltaCmd", laid_pub_filiation_pub_gogit_packfile_ErrDeltaCmd), ("pub-filiation/pub/gogit/packfile.ErrLengthOverflow", laid_pub_filiation_pub_gogit_packfile_ErrLengthOverflow)], narrowed := true }
def FnLebUptoSaid : Prop := fnLebUptoRow.holds Tryd.pinned (OpenSpec.upto fnLebSpec)

/-- 'laws.FnOffsets', WHERE WHAT IT READS IS OF BULK AT MOST 1048576: true; the input reads as it did. -/
def fnOffsetsUptoRow : OpenClaim := { program := "ytgibmkgibkhemaadoor", sum := "22ea348939f210b56f08901f53313432b652f658cf39cd5446f56fa75c5630bb", func := "pub-filiation/laws.FnOffsets", spec := "fnOffsets", unfollowed := true, recurses := true, named := ["pub-filiation/pub/gogit/packfile.ErrInvalidDelta", "pub-filiation/pub/gogit/packfile.ErrDeltaCmd", "pub-filiation/pub/gogit/packfile.ErrLengthOverflow", "bytes.ErrTooLarge", "pub-filiation/pub/gogit/binary.ErrIntegerOverflow", "pub-filiation/pub/gogit/binary.zzErrType", "io.ErrShortBuffer", "io.EOF", "io.ErrUnexpectedEOF"], apart := false, laid := [("io.ErrShortBuffer", laid_io_ErrShortBuffer), ("io.EOF", laid_io_EOF), ("io.ErrUnexpectedEOF", laid_io_ErrUnexpectedEOF), ("bytes.ErrTooLarge", laid_bytes_ErrTooLarge), ("pub-filiation/pub/gogit/binary.ErrIntegerOverflow", laid_pub_filiation_pub_gogit_binary_ErrIntegerOverflow), ("pub-filiation/pub/gogit/binary.zzErrType", laid_pub_filiation_pub_gogit_binary_zzErrType), ("pub-filiation/pub/gogit/packfile.ErrInvalidDelta", laid_pub_filiation_pub_gogit_packfile_ErrInvalidDelta), ("pub-filiation/pub/gogit/packfile.ErrDeltaCmd", laid_pub_filiation_pub_gogit_packfile_ErrDeltaCmd), ("pub-filiation/pub/gogit/packfile.ErrLengthOverflow", laid_pub_filiation_pub_gogit_packfile_ErrLengthOverflow)], narrowed := true }
def FnOffsetsUptoSaid : Prop := fnOffsetsUptoRow.holds Tryd.pinned (OpenSpec.upto fnOffsetsSpec)

/-- 'laws.FnDeltaChain', WHERE WHAT IT READS IS OF BULK AT MOST 1048576: true; the input reads as it did. -/
def fnDeltaChainUptoRow : OpenClaim := { program := "ytgibmkgibkhemaadoor", sum := "22ea348939f210b56f08901f53313432b652f658cf39cd5446f56fa75c5630bb", func := "pub-filiation/laws.FnDeltaChain", spec := "fnDeltaChain", unfollowed := true, recurses := true, named := ["pub-filiation/pub/gogit/packfile.ErrInvalidDelta", "pub-filiation/pub/gogit/packfile.ErrDeltaCmd", "pub-filiation/pub/gogit/packfile.ErrLengthOverflow", "bytes.ErrTooLarge"], apart := false, laid := [("bytes.ErrTooLarge", laid_bytes_ErrTooLarge), ("pub-filiation/pub/gogit/packfile.ErrInvalidDelta", laid_pub_filiation_pub_gogit_packfile_ErrInvalidDelta), ("pub-filiation/pub/gogit/packfile.ErrDeltaCmd", laid_pub_filiation_pub_gogit_packfile_ErrDeltaCmd), ("pub-filiation/pub/gogit/packfile.ErrLengthOverflow", laid_pub_filiation_pub_gogit_packfile_ErrLengthOverflow)], narrowed := true }
def FnDeltaChainUptoSaid : Prop := fnDeltaChainUptoRow.holds Tryd.pinned (OpenSpec.upto fnDeltaChainSpec)

end Rows
end Go.Proofs.YtgibmkgibkhemaaDoor
