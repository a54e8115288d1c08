/-
  NARROWER THAN 'FOR EVERY INPUT', by the rows' own cells (each row's printed sentence says how): FnGlobNames: laid · FnAttrLine: laid · FnAttrNames: laid · FnAttrAll: laid · FnAttrLines: laid · FnAttrPaths: laid · FnAttrMacro: laid.
  DERIVED. THE GIVEN ROWS OF THIS SEAT. 7 by the template 'for every input the law returns true; each argument reads behind the call as it read before'; 0 by the template 'total and deterministic' (their statements: YteipeagdflcjjaaDoorTotals.lean).
  GIVEN WITH THE SEED: the statements are not yours to turn. If you find one false, say at which input.
  Laid BY PROGRAM, IN A SANDBOX (cutbox-rows.mjs): the forced cells as the released guide's own fill.sh prints them over the translation 80960ffe2aecfebf… (all of the seat's roots in one cut). By AI agents, Wed Nov 11 2026. No macro, syntax, notation, axiom, sorry.
-/
import Derived.Test.YteipeagdflcjjaaDoorChecked
import GoSem.PinnedTables
import GoSem.Claim
import GoSem.ClaimJoined
import GoSem.ClaimMapViews
import Derived.JoinedTies
import Derived.KernelRfl
namespace Go.Proofs.YteipeagdflcjjaaDoor
/- THE CELL 'sum', in the pinned program and in every row, IS THE sha256 OF THE DUMP (.gsa) THAT YteipeagdflcjjaaDoorProg.lean LOADS. Nothing in Lean hashes anything: it is a label: what it is worth is what the hold of that sum in a sandbox is worth. -/
noncomputable def Tryd.pinned : Pinned := { name := "yteipeagdflcjjaadoor", sum := "80960ffe2aecfebfcc42b158b23f8322a3c49bdad2688a3b82675b1d403b8514", checked := Tryd.checked }
namespace Rows
def none {H : Type} : Left H := { results := [], args := [] }

/- WHAT THE LISTED PACKAGE-LEVEL VARIABLES READ AS WHEN THE CALL BEGINS. Each datum BY PROGRAM (the guide's laid-datum.mjs) off the statement by which the dump's own 'gosem.cut.vars' lays the variable. In a bare row this is a premise. The card (YteipeagdflcjjaaDoorCards.lean) ties it to the program's text. -/
def laid_unicode_utf8_acceptRanges {H : Type} : DataW H := .agg [.agg [.lit (.int .u8 128), .lit (.int .u8 191)], .agg [.lit (.int .u8 160), .lit (.int .u8 191)], .agg [.lit (.int .u8 128), .lit (.int .u8 159)], .agg [.lit (.int .u8 144), .lit (.int .u8 191)], .agg [.lit (.int .u8 128), .lit (.int .u8 143)], .agg [.lit (.int .u8 0), .lit (.int .u8 0)], .agg [.lit (.int .u8 0), .lit (.int .u8 0)], .agg [.lit (.int .u8 0), .lit (.int .u8 0)], .agg [.lit (.int .u8 0), .lit (.int .u8 0)], .agg [.lit (.int .u8 0), .lit (.int .u8 0)], .agg [.lit (.int .u8 0), .lit (.int .u8 0)], .agg [.lit (.int .u8 0), .lit (.int .u8 0)], .agg [.lit (.int .u8 0), .lit (.int .u8 0)], .agg [.lit (.int .u8 0), .lit (.int .u8 0)], .agg [.lit (.int .u8 0), .lit (.int .u8 0)], .agg [.lit (.int .u8 0), .lit (.int .u8 0)]]
def laid_pub_filiation_pub_gogit_index_ErrBadPattern {H : Type} : DataW H := .iface "*errors.errorString" (.ptr (.agg [.lit (.string [115, 121, 110, 116, 97, 120, 32, 101, 114, 114, 111, 114, 32, 105, 110, 32, 112, 97, 116, 116, 101, 114, 110])]))
/-- One of Go's own tables, pinned by name: the form's constant. -/
def laid_unicode_utf8_first : DataW Unit := Go.Pinned.utf8First
def laid_pub_filiation_pub_gogit_gitattributes_ErrMacroNotAllowed {H : Type} : DataW H := .iface "*errors.errorString" (.ptr (.agg [.lit (.string [109, 97, 99, 114, 111, 32, 110, 111, 116, 32, 97, 108, 108, 111, 119, 101, 100])]))
def laid_pub_filiation_pub_gogit_gitattributes_ErrInvalidAttributeName {H : Type} : DataW H := .iface "*errors.errorString" (.ptr (.agg [.lit (.string [105, 110, 118, 97, 108, 105, 100, 32, 97, 116, 116, 114, 105, 98, 117, 116, 101, 32, 110, 97, 109, 101])]))
def laid_io_EOF {H : Type} : DataW H := .iface "*errors.errorString" (.ptr (.agg [.lit (.string [69, 79, 70])]))
def laid_io_ErrNoProgress {H : Type} : DataW H := .iface "*errors.errorString" (.ptr (.agg [.lit (.string [109, 117, 108, 116, 105, 112, 108, 101, 32, 82, 101, 97, 100, 32, 99, 97, 108, 108, 115, 32, 114, 101, 116, 117, 114, 110, 32, 110, 111, 32, 100, 97, 116, 97, 32, 111, 114, 32, 101, 114, 114, 111, 114])]))
def laid_bufio_ErrTooLong {H : Type} : DataW H := .iface "*errors.errorString" (.ptr (.agg [.lit (.string [98, 117, 102, 105, 111, 46, 83, 99, 97, 110, 110, 101, 114, 58, 32, 116, 111, 107, 101, 110, 32, 116, 111, 111, 32, 108, 111, 110, 103])]))
def laid_bufio_ErrNegativeAdvance {H : Type} : DataW H := .iface "*errors.errorString" (.ptr (.agg [.lit (.string [98, 117, 102, 105, 111, 46, 83, 99, 97, 110, 110, 101, 114, 58, 32, 83, 112, 108, 105, 116, 70, 117, 110, 99, 32, 114, 101, 116, 117, 114, 110, 115, 32, 110, 101, 103, 97, 116, 105, 118, 101, 32, 97, 100, 118, 97, 110, 99, 101, 32, 99, 111, 117, 110, 116])]))
def laid_bufio_ErrAdvanceTooFar {H : Type} : DataW H := .iface "*errors.errorString" (.ptr (.agg [.lit (.string [98, 117, 102, 105, 111, 46, 83, 99, 97, 110, 110, 101, 114, 58, 32, 83, 112, 108, 105, 116, 70, 117, 110, 99, 32, 114, 101, 116, 117, 114, 110, 115, 32, 97, 100, 118, 97, 110, 99, 101, 32, 99, 111, 117, 110, 116, 32, 98, 101, 121, 111, 110, 100, 32, 105, 110, 112, 117, 116])]))
def laid_bufio_ErrBadReadCount {H : Type} : DataW H := .iface "*errors.errorString" (.ptr (.agg [.lit (.string [98, 117, 102, 105, 111, 46, 83, 99, 97, 110, 110, 101, 114, 58, 32, 82, 101, 97, 100, 32, 114, 101, 116, 117, 114, 110, 101, 100, 32, 105, 109, 112, 111, 115, 115, 105, 98, 108, 101, 32, 99, 111, 117, 110, 116])]))
def laid_bufio_ErrFinalToken {H : Type} : DataW H := .iface "*errors.errorString" (.ptr (.agg [.lit (.string [102, 105, 110, 97, 108, 32, 116, 111, 107, 101, 110])]))

/-- 'laws.FnGlobNames': WHATEVER THE INPUT: true; the input reads as it did. -/
def fnGlobNamesSpec : ChangeSpec := { name := "fnGlobNames", fn := fun _ => fun
  | [d1, d2] => { results := [.lit (.bool true)], args := [d1, d2] }
  | _ => none }
def fnGlobNamesRow : OpenClaim := { program := "yteipeagdflcjjaadoor", sum := "80960ffe2aecfebfcc42b158b23f8322a3c49bdad2688a3b82675b1d403b8514", func := "pub-filiation/laws.FnGlobNames", spec := "fnGlobNames", unfollowed := true, recurses := true, named := ["pub-filiation/pub/gogit/index.ErrBadPattern", "unicode/utf8.first", "unicode/utf8.acceptRanges"], apart := false, laid := [("unicode/utf8.acceptRanges", laid_unicode_utf8_acceptRanges), ("pub-filiation/pub/gogit/index.ErrBadPattern", laid_pub_filiation_pub_gogit_index_ErrBadPattern), ("unicode/utf8.first", laid_unicode_utf8_first)] }
def FnGlobNamesSaid : Prop := fnGlobNamesRow.holds Tryd.pinned (OpenSpec.ofChange fnGlobNamesSpec)

/-- ITS FALSE NEIGHBOUR: 'it returns false'. Refute it at one input. -/
def fnGlobNamesWrong : ChangeSpec := { name := "fnGlobNames", fn := fun _ => fun
  | [d1, d2] => { results := [.lit (.bool false)], args := [d1, d2] }
  | _ => none }
def FnGlobNamesWrongFalsely : Prop := fnGlobNamesRow.holds Tryd.pinned (OpenSpec.ofChange fnGlobNamesWrong)

/-- 'laws.FnAttrLine': WHATEVER THE INPUT: true; the input reads as it did. -/
def fnAttrLineSpec : ChangeSpec := { name := "fnAttrLine", fn := fun _ => fun
  | [d1, d2, d3] => { results := [.lit (.bool true)], args := [d1, d2, d3] }
  | _ => none }
def fnAttrLineRow : OpenClaim := { program := "yteipeagdflcjjaadoor", sum := "80960ffe2aecfebfcc42b158b23f8322a3c49bdad2688a3b82675b1d403b8514", func := "pub-filiation/laws.FnAttrLine", spec := "fnAttrLine", unfollowed := true, recurses := true, named := ["pub-filiation/pub/gogit/gitattributes.ErrInvalidAttributeName", "pub-filiation/pub/gogit/gitattributes.ErrMacroNotAllowed"], apart := false, laid := [("pub-filiation/pub/gogit/gitattributes.ErrMacroNotAllowed", laid_pub_filiation_pub_gogit_gitattributes_ErrMacroNotAllowed), ("pub-filiation/pub/gogit/gitattributes.ErrInvalidAttributeName", laid_pub_filiation_pub_gogit_gitattributes_ErrInvalidAttributeName)] }
def FnAttrLineSaid : Prop := fnAttrLineRow.holds Tryd.pinned (OpenSpec.ofChange fnAttrLineSpec)

/-- ITS FALSE NEIGHBOUR: 'it returns false'. Refute it at one input. -/
def fnAttrLineWrong : ChangeSpec := { name := "fnAttrLine", fn := fun _ => fun
  | [d1, d2, d3] => { results := [.lit (.bool false)], args := [d1, d2, d3] }
  | _ => none }
def FnAttrLineWrongFalsely : Prop := fnAttrLineRow.holds Tryd.pinned (OpenSpec.ofChange fnAttrLineWrong)

/-- 'laws.FnAttrNames': WHATEVER THE INPUT: true; the input reads as it did. -/
def fnAttrNamesSpec : ChangeSpec := { name := "fnAttrNames", fn := fun _ => fun
  | [d1, d2, d3] => { results := [.lit (.bool true)], args := [d1, d2, d3] }
  | _ => none }
def fnAttrNamesRow : OpenClaim := { program := "yteipeagdflcjjaadoor", sum := "80960ffe2aecfebfcc42b158b23f8322a3c49bdad2688a3b82675b1d403b8514", func := "pub-filiation/laws.FnAttrNames", spec := "fnAttrNames", unfollowed := true, recurses := true, named := ["pub-filiation/pub/gogit/gitattributes.ErrInvalidAttributeName", "pub-filiation/pub/gogit/gitattributes.ErrMacroNotAllowed"], apart := false, laid := [("pub-filiation/pub/gogit/gitattributes.ErrMacroNotAllowed", laid_pub_filiation_pub_gogit_gitattributes_ErrMacroNotAllowed), ("pub-filiation/pub/gogit/gitattributes.ErrInvalidAttributeName", laid_pub_filiation_pub_gogit_gitattributes_ErrInvalidAttributeName)] }
def FnAttrNamesSaid : Prop := fnAttrNamesRow.holds Tryd.pinned (OpenSpec.ofChange fnAttrNamesSpec)

/-- ITS FALSE NEIGHBOUR: 'it returns false'. Refute it at one input. -/
def fnAttrNamesWrong : ChangeSpec := { name := "fnAttrNames", fn := fun _ => fun
  | [d1, d2, d3] => { results := [.lit (.bool false)], args := [d1, d2, d3] }
  | _ => none }
def FnAttrNamesWrongFalsely : Prop := fnAttrNamesRow.holds Tryd.pinned (OpenSpec.ofChange fnAttrNamesWrong)

/-- 'laws.FnAttrAll': WHATEVER THE INPUT: true; the input reads as it did. -/
def fnAttrAllSpec : ChangeSpec := { name := "fnAttrAll", fn := fun _ => fun
  | [d1, d2, d3] => { results := [.lit (.bool true)], args := [d1, d2, d3] }
  | _ => none }
def fnAttrAllRow : OpenClaim := { program := "yteipeagdflcjjaadoor", sum := "80960ffe2aecfebfcc42b158b23f8322a3c49bdad2688a3b82675b1d403b8514", func := "pub-filiation/laws.FnAttrAll", spec := "fnAttrAll", inPlace := ["internal/bytealg.IndexByte"], unfollowed := true, recurses := true, named := ["bufio.ErrFinalToken", "bufio.ErrTooLong", "bufio.ErrBadReadCount", "io.ErrNoProgress", "io.EOF", "bufio.ErrNegativeAdvance", "bufio.ErrAdvanceTooFar", "pub-filiation/pub/gogit/gitattributes.ErrInvalidAttributeName", "pub-filiation/pub/gogit/gitattributes.ErrMacroNotAllowed"], apart := false, laid := [("io.EOF", laid_io_EOF), ("io.ErrNoProgress", laid_io_ErrNoProgress), ("bufio.ErrTooLong", laid_bufio_ErrTooLong), ("bufio.ErrNegativeAdvance", laid_bufio_ErrNegativeAdvance), ("bufio.ErrAdvanceTooFar", laid_bufio_ErrAdvanceTooFar), ("bufio.ErrBadReadCount", laid_bufio_ErrBadReadCount), ("bufio.ErrFinalToken", laid_bufio_ErrFinalToken), ("pub-filiation/pub/gogit/gitattributes.ErrMacroNotAllowed", laid_pub_filiation_pub_gogit_gitattributes_ErrMacroNotAllowed), ("pub-filiation/pub/gogit/gitattributes.ErrInvalidAttributeName", laid_pub_filiation_pub_gogit_gitattributes_ErrInvalidAttributeName)] }
def FnAttrAllSaid : Prop := fnAttrAllRow.holds Tryd.pinned (OpenSpec.ofChange fnAttrAllSpec)

/-- ITS FALSE NEIGHBOUR: 'it returns false'. Refute it at one input. -/
def fnAttrAllWrong : ChangeSpec := { name := "fnAttrAll", fn := fun _ => fun
  | [d1, d2, d3] => { results := [.lit (.bool false)], args := [d1, d2, d3] }
  | _ => none }
def FnAttrAllWrongFalsely : Prop := fnAttrAllRow.holds Tryd.pinned (OpenSpec.ofChange fnAttrAllWrong)

/-- 'laws.FnAttrLines': WHATEVER THE INPUT: true; the input reads as it did. -/
def fnAttrLinesSpec : ChangeSpec := { name := "fnAttrLines", fn := fun _ => fun
  | [d1, d2, d3] => { results := [.lit (.bool true)], args := [d1, d2, d3] }
  | _ => none }
def fnAttrLinesRow : OpenClaim := { program := "yteipeagdflcjjaadoor", sum := "80960ffe2aecfebfcc42b158b23f8322a3c49bdad2688a3b82675b1d403b8514", func := "pub-filiation/laws.FnAttrLines", spec := "fnAttrLines", inPlace := ["internal/bytealg.IndexByte"], unfollowed := true, recurses := true, named := ["bufio.ErrFinalToken", "bufio.ErrTooLong", "bufio.ErrBadReadCount", "io.ErrNoProgress", "io.EOF", "bufio.ErrNegativeAdvance", "bufio.ErrAdvanceTooFar", "pub-filiation/pub/gogit/gitattributes.ErrInvalidAttributeName", "pub-filiation/pub/gogit/gitattributes.ErrMacroNotAllowed"], apart := false, laid := [("io.EOF", laid_io_EOF), ("io.ErrNoProgress", laid_io_ErrNoProgress), ("bufio.ErrTooLong", laid_bufio_ErrTooLong), ("bufio.ErrNegativeAdvance", laid_bufio_ErrNegativeAdvance), ("bufio.ErrAdvanceTooFar", laid_bufio_ErrAdvanceTooFar), ("bufio.ErrBadReadCount", laid_bufio_ErrBadReadCount), ("bufio.ErrFinalToken", laid_bufio_ErrFinalToken), ("pub-filiation/pub/gogit/gitattributes.ErrMacroNotAllowed", laid_pub_filiation_pub_gogit_gitattributes_ErrMacroNotAllowed), ("pub-filiation/pub/gogit/gitattributes.ErrInvalidAttributeName", laid_pub_filiation_pub_gogit_gitattributes_ErrInvalidAttributeName)] }
def FnAttrLinesSaid : Prop := fnAttrLinesRow.holds Tryd.pinned (OpenSpec.ofChange fnAttrLinesSpec)

/-- ITS FALSE NEIGHBOUR: 'it returns false'. Refute it at one input. -/
def fnAttrLinesWrong : ChangeSpec := { name := "fnAttrLines", fn := fun _ => fun
  | [d1, d2, d3] => { results := [.lit (.bool false)], args := [d1, d2, d3] }
  | _ => none }
def FnAttrLinesWrongFalsely : Prop := fnAttrLinesRow.holds Tryd.pinned (OpenSpec.ofChange fnAttrLinesWrong)

/-- 'laws.FnAttrPaths': WHATEVER THE INPUT: true; the input reads as it did. -/
def fnAttrPathsSpec : ChangeSpec := { name := "fnAttrPaths", fn := fun _ => fun
  | [d1, d2, d3, d4] => { results := [.lit (.bool true)], args := [d1, d2, d3, d4] }
  | _ => none }
def fnAttrPathsRow : OpenClaim := { program := "yteipeagdflcjjaadoor", sum := "80960ffe2aecfebfcc42b158b23f8322a3c49bdad2688a3b82675b1d403b8514", func := "pub-filiation/laws.FnAttrPaths", spec := "fnAttrPaths", inPlace := ["internal/bytealg.IndexByte"], unfollowed := true, recurses := true, named := ["bufio.ErrFinalToken", "bufio.ErrTooLong", "bufio.ErrBadReadCount", "io.ErrNoProgress", "io.EOF", "bufio.ErrNegativeAdvance", "bufio.ErrAdvanceTooFar", "pub-filiation/pub/gogit/gitattributes.ErrInvalidAttributeName", "pub-filiation/pub/gogit/gitattributes.ErrMacroNotAllowed"], apart := false, laid := [("io.EOF", laid_io_EOF), ("io.ErrNoProgress", laid_io_ErrNoProgress), ("bufio.ErrTooLong", laid_bufio_ErrTooLong), ("bufio.ErrNegativeAdvance", laid_bufio_ErrNegativeAdvance), ("bufio.ErrAdvanceTooFar", laid_bufio_ErrAdvanceTooFar), ("bufio.ErrBadReadCount", laid_bufio_ErrBadReadCount), ("bufio.ErrFinalToken", laid_bufio_ErrFinalToken), ("pub-filiation/pub/gogit/gitattributes.ErrMacroNotAllowed", laid_pub_filiation_pub_gogit_gitattributes_ErrMacroNotAllowed), ("pub-filiation/pub/gogit/gitattributes.ErrInvalidAttributeName", laid_pub_filiation_pub_gogit_gitattributes_ErrInvalidAttributeName)] }
def FnAttrPathsSaid : Prop := fnAttrPathsRow.holds Tryd.pinned (OpenSpec.ofChange fnAttrPathsSpec)

/-- ITS FALSE NEIGHBOUR: 'it returns false'. Refute it at one input. -/
def fnAttrPathsWrong : ChangeSpec := { name := "fnAttrPaths", fn := fun _ => fun
  | [d1, d2, d3, d4] => { results := [.lit (.bool false)], args := [d1, d2, d3, d4] }
  | _ => none }
def FnAttrPathsWrongFalsely : Prop := fnAttrPathsRow.holds Tryd.pinned (OpenSpec.ofChange fnAttrPathsWrong)

/-- 'laws.FnAttrMacro': WHATEVER THE INPUT: true; the input reads as it did. -/
def fnAttrMacroSpec : ChangeSpec := { name := "fnAttrMacro", fn := fun _ => fun
  | [d1, d2, d3, d4] => { results := [.lit (.bool true)], args := [d1, d2, d3, d4] }
  | _ => none }
def fnAttrMacroRow : OpenClaim := { program := "yteipeagdflcjjaadoor", sum := "80960ffe2aecfebfcc42b158b23f8322a3c49bdad2688a3b82675b1d403b8514", func := "pub-filiation/laws.FnAttrMacro", spec := "fnAttrMacro", inPlace := ["internal/bytealg.IndexByte"], unfollowed := true, recurses := true, named := ["pub-filiation/pub/gogit/gitattributes.ErrInvalidAttributeName", "pub-filiation/pub/gogit/gitattributes.ErrMacroNotAllowed", "bufio.ErrFinalToken", "bufio.ErrTooLong", "bufio.ErrBadReadCount", "io.ErrNoProgress", "io.EOF", "bufio.ErrNegativeAdvance", "bufio.ErrAdvanceTooFar"], apart := false, laid := [("io.EOF", laid_io_EOF), ("io.ErrNoProgress", laid_io_ErrNoProgress), ("bufio.ErrTooLong", laid_bufio_ErrTooLong), ("bufio.ErrNegativeAdvance", laid_bufio_ErrNegativeAdvance), ("bufio.ErrAdvanceTooFar", laid_bufio_ErrAdvanceTooFar), ("bufio.ErrBadReadCount", laid_bufio_ErrBadReadCount), ("bufio.ErrFinalToken", laid_bufio_ErrFinalToken), ("pub-filiation/pub/gogit/gitattributes.ErrMacroNotAllowed", laid_pub_filiation_pub_gogit_gitattributes_ErrMacroNotAllowed), ("pub-filiation/pub/gogit/gitattributes.ErrInvalidAttributeName", laid_pub_filiation_pub_gogit_gitattributes_ErrInvalidAttributeName)] }
def FnAttrMacroSaid : Prop := fnAttrMacroRow.holds Tryd.pinned (OpenSpec.ofChange fnAttrMacroSpec)

/-- ITS FALSE NEIGHBOUR: 'it returns false'. Refute it at one input. -/
def fnAttrMacroWrong : ChangeSpec := { name := "fnAttrMacro", fn := fun _ => fun
  | [d1, d2, d3, d4] => { results := [.lit (.bool false)], args := [d1, d2, d3, d4] }
  | _ => none }
def FnAttrMacroWrongFalsely : Prop := fnAttrMacroRow.holds Tryd.pinned (OpenSpec.ofChange fnAttrMacroWrong)

/- THE SECOND FORM. 'bulk': how many values and letters a reading holds, each counted each time it is reached (what is shared counts as often as it is met; a slice's spare places count too). A statement '..UptoSaid' is the law's where the arguments, and the package variables that the reading takes, are together of bulk at most 1048576: NARROWER than '..Said'. Prove '..Said' where nothing that the law and all that it calls make is longer than what came in: it says more and counts as full. Else prove '..UptoSaid'. A law counts once. -/
mutual
def uptoBulk {H : Type} : DataW H → Nat
  | .lit (.string bytes) => bytes.length + 1
  | .lit _ => 1
  | .nil => 1
  | .ptr d => uptoBulk d + 1
  | .slice elems spare => uptoBulkAll elems + uptoBulkAll spare + 1
  | .agg parts => uptoBulkAll parts + 1
  | .iface _ d => uptoBulk d + 1
  | .map entries => uptoBulkEntries entries + 1
  | .held _ => 1
def uptoBulkAll {H : Type} : List (DataW H) → Nat
  | [] => 0
  | d :: r => uptoBulk d + uptoBulkAll r
def uptoBulkEntries {H : Type} : List (Lit × DataW H) → Nat
  | [] => 0
  | x :: r => uptoBulkEntry x + uptoBulkEntries r
def uptoBulkEntry {H : Type} : Lit × DataW H → Nat
  | (.string bytes, d) => bytes.length + uptoBulk d + 1
  | (_, d) => uptoBulk d + 1
 end
def uptoSmall : (H : Type) → List (DataW H) → Bool := fun _ ds => decide (uptoBulkAll ds ≤ 1048576)
def OpenSpec.upto (s : _root_.Go.ChangeSpec) : _root_.Go.OpenSpec := { _root_.Go.OpenSpec.ofChange s with cond := some uptoSmall }

/-- 'laws.FnGlobNames', WHERE WHAT IT READS IS OF BULK AT MOST 1048576: true; the input reads as it did. -/
def fnGlobNamesUptoRow : OpenClaim := { program := "yteipeagdflcjjaadoor", sum := "80960ffe2aecfebfcc42b158b23f8322a3c49bdad2688a3b82675b1d403b8514", func := "pub-filiation/laws.FnGlobNames", spec := "fnGlobNames", unfollowed := true, recurses := true, named := ["pub-filiation/pub/gogit/index.ErrBadPattern", "unicode/utf8.first", "unicode/utf8.acceptRanges"], apart := false, laid := [("unicode/utf8.acceptRanges", laid_unicode_utf8_acceptRanges), ("pub-filiation/pub/gogit/index.ErrBadPattern", laid_pub_filiation_pub_gogit_index_ErrBadPattern), ("unicode/utf8.first", laid_unicode_utf8_first)], narrowed := true }
def FnGlobNamesUptoSaid : Prop := fnGlobNamesUptoRow.holds Tryd.pinned (OpenSpec.upto fnGlobNamesSpec)

/-- 'laws.FnAttrLine', WHERE WHAT IT READS IS OF BULK AT MOST 1048576: true; the input reads as it did. -/
def fnAttrLineUptoRow : OpenClaim := { program := "yteipeagdflcjjaadoor", sum := "80960ffe2aecfebfcc42b158b23f8322a3c49bdad2688a3b82675b1d403b8514", func := "pub-filiation/laws.FnAttrLine", spec := "fnAttrLine", unfollowed := true, recurses := true, named := ["pub-filiation/pub/gogit/gitattributes.ErrInvalidAttributeName", "pub-filiation/pub/gogit/gitattributes.ErrMacroNotAllowed"], apart := false, laid := [("pub-filiation/pub/gogit/gitattributes.ErrMacroNotAllowed", laid_pub_filiation_pub_gogit_gitattributes_ErrMacroNotAllowed), ("pub-filiation/pub/gogit/gitattributes.ErrInvalidAttributeName", laid_pub_filiation_pub_gogit_gitattributes_ErrInvalidAttributeName)], narrowed := true }
def FnAttrLineUptoSaid : Prop := fnAttrLineUptoRow.holds Tryd.pinned (OpenSpec.upto fnAttrLineSpec)

/-- 'laws.FnAttrNames', WHERE WHAT IT READS IS OF BULK AT MOST 1048576: true; the input reads as it did. -/
def fnAttrNamesUptoRow : OpenClaim := { program := "yteipeagdflcjjaadoor", sum := "80960ffe2aecfebfcc42b158b23f8322a3c49bdad2688a3b82675b1d403b8514", func := "pub-filiation/laws.FnAttrNames", spec := "fnAttrNames", unfollowed := true, recurses := true, named := ["pub-filiation/pub/gogit/gitattributes.ErrInvalidAttributeName", "pub-filiation/pub/gogit/gitattributes.ErrMacroNotAllowed"], apart := false, laid := [("pub-filiation/pub/gogit/gitattributes.ErrMacroNotAllowed", laid_pub_filiation_pub_gogit_gitattributes_ErrMacroNotAllowed), ("pub-filiation/pub/gogit/gitattributes.ErrInvalidAttributeName", laid_pub_filiation_pub_gogit_gitattributes_ErrInvalidAttributeName)], narrowed := true }
def FnAttrNamesUptoSaid : Prop := fnAttrNamesUptoRow.holds Tryd.pinned (OpenSpec.upto fnAttrNamesSpec)

/-- 'laws.FnAttrAll', WHERE WHAT IT READS IS OF BULK AT MOST 1048576: true; the input reads as it did. -/
def fnAttrAllUptoRow : OpenClaim := { program := "yteipeagdflcjjaadoor", sum := "80960ffe2aecfebfcc42b158b23f8322a3c49bdad2688a3b82675b1d403b8514", func := "pub-filiation/laws.FnAttrAll", spec := "fnAttrAll", inPlace := ["internal/bytealg.IndexByte"], unfollowed := true, recurses := true, named := ["bufio.ErrFinalToken", "bufio.ErrTooLong", "bufio.ErrBadReadCount", "io.ErrNoProgress", "io.EOF", "bufio.ErrNegativeAdvance", "bufio.ErrAdvanceTooFar", "pub-filiation/pub/gogit/gitattributes.ErrInvalidAttributeName", "pub-filiation/pub/gogit/gitattributes.ErrMacroNotAllowed"], apart := false, laid := [("io.EOF", laid_io_EOF), ("io.ErrNoProgress", laid_io_ErrNoProgress), ("bufio.ErrTooLong", laid_bufio_ErrTooLong), ("bufio.ErrNegativeAdvance", laid_bufio_ErrNegativeAdvance), ("bufio.ErrAdvanceTooFar", laid_bufio_ErrAdvanceTooFar), ("bufio.ErrBadReadCount", laid_bufio_ErrBadReadCount), ("bufio.ErrFinalToken", laid_bufio_ErrFinalToken), ("pub-filiation/pub/gogit/gitattributes.ErrMacroNotAllowed", laid_pub_filiation_pub_gogit_gitattributes_ErrMacroNotAllowed), ("pub-filiation/pub/gogit/gitattributes.ErrInvalidAttributeName", laid_pub_filiation_pub_gogit_gitattributes_ErrInvalidAttributeName)], narrowed := true }
def FnAttrAllUptoSaid : Prop := fnAttrAllUptoRow.holds Tryd.pinned (OpenSpec.upto fnAttrAllSpec)

/-- 'laws.FnAttrLines', WHERE WHAT IT READS IS OF BULK AT MOST 1048576: true; the input reads as it did. -/
def fnAttrLinesUptoRow : OpenClaim := { program := "yteipeagdflcjjaadoor", sum := "80960ffe2aecfebfcc42b158b23f8322a3c49bdad2688a3b82675b1d403b8514", func := "pub-filiation/laws.FnAttrLines", spec := "fnAttrLines", inPlace := ["internal/bytealg.IndexByte"], unfollowed := true, recurses := true, named := ["bufio.ErrFinalToken", "bufio.ErrTooLong", "bufio.ErrBadReadCount", "io.ErrNoProgress", "io.EOF", "bufio.ErrNegativeAdvance", "bufio.ErrAdvanceTooFar", "pub-filiation/pub/gogit/gitattributes.ErrInvalidAttributeName", "pub-filiation/pub/gogit/gitattributes.ErrMacroNotAllowed"], apart := false, laid := [("io.EOF", laid_io_EOF), ("io.ErrNoProgress", laid_io_ErrNoProgress), ("bufio.ErrTooLong", laid_bufio_ErrTooLong), ("bufio.ErrNegativeAdvance", laid_bufio_ErrNegativeAdvance), ("bufio.ErrAdvanceTooFar", laid_bufio_ErrAdvanceTooFar), ("bufio.ErrBadReadCount", laid_bufio_ErrBadReadCount), ("bufio.ErrFinalToken", laid_bufio_ErrFinalToken), ("pub-filiation/pub/gogit/gitattributes.ErrMacroNotAllowed", laid_pub_filiation_pub_gogit_gitattributes_ErrMacroNotAllowed), ("pub-filiation/pub/gogit/gitattributes.ErrInvalidAttributeName", laid_pub_filiation_pub_gogit_gitattributes_ErrInvalidAttributeName)], narrowed := true }
def FnAttrLinesUptoSaid : Prop := fnAttrLinesUptoRow.holds Tryd.pinned (OpenSpec.upto fnAttrLinesSpec)

/-- 'laws.FnAttrPaths', WHERE WHAT IT READS IS OF BULK AT MOST 1048576: true; the input reads as it did. -/
def fnAttrPathsUptoRow : OpenClaim := { program := "yteipeagdflcjjaadoor", sum := "80960ffe2aecfebfcc42b158b23f8322a3c49bdad2688a3b82675b1d403b8514", func := "pub-filiation/laws.FnAttrPaths", spec := "fnAttrPaths", inPlace := ["internal/bytealg.IndexByte"], unfollowed := true, recurses := true, named := ["bufio.ErrFinalToken", "bufio.ErrTooLong", "bufio.ErrBadReadCount", "io.ErrNoProgress", "io.EOF", "bufio.ErrNegativeAdvance", "bufio.ErrAdvanceTooFar", "pub-filiation/pub/gogit/gitattributes.ErrInvalidAttributeName", "pub-filiation/pub/gogit/gitattributes.ErrMacroNotAllowed"], apart := false, laid := [("io.EOF", laid_io_EOF), ("io.ErrNoProgress", laid_io_ErrNoProgress), ("bufio.ErrTooLong", laid_bufio_ErrTooLong), ("bufio.ErrNegativeAdvance", laid_bufio_ErrNegativeAdvance), ("bufio.ErrAdvanceTooFar", laid_bufio_ErrAdvanceTooFar), ("bufio.ErrBadReadCount", laid_bufio_ErrBadReadCount), ("bufio.ErrFinalToken", laid_bufio_ErrFinalToken), ("pub-filiation/pub/gogit/gitattributes.ErrMacroNotAllowed", laid_pub_filiation_pub_gogit_gitattributes_ErrMacroNotAllowed), ("pub-filiation/pub/gogit/gitattributes.ErrInvalidAttributeName", laid_pub_filiation_pub_gogit_gitattributes_ErrInvalidAttributeName)], narrowed := true }
def FnAttrPathsUptoSaid : Prop := fnAttrPathsUptoRow.holds Tryd.pinned (OpenSpec.upto fnAttrPathsSpec)

/-- 'laws.FnAttrMacro', WHERE WHAT IT READS IS OF BULK AT MOST 1048576: true; the input reads as it did. -/
def fnAttrMacroUptoRow : OpenClaim := { program := "yteipeagdflcjjaadoor", sum := "80960ffe2aecfebfcc42b158b23f8322a3c49bdad2688a3b82675b1d403b8514", func := "pub-filiation/laws.FnAttrMacro", spec := "fnAttrMacro", inPlace := ["internal/bytealg.IndexByte"], unfollowed := true, recurses := true, named := ["pub-filiation/pub/gogit/gitattributes.ErrInvalidAttributeName", "pub-filiation/pub/gogit/gitattributes.ErrMacroNotAllowed", "bufio.ErrFinalToken", "bufio.ErrTooLong", "bufio.ErrBadReadCount", "io.ErrNoProgress", "io.EOF", "bufio.ErrNegativeAdvance", "bufio.ErrAdvanceTooFar"], apart := false, laid := [("io.EOF", laid_io_EOF), ("io.ErrNoProgress", laid_io_ErrNoProgress), ("bufio.ErrTooLong", laid_bufio_ErrTooLong), ("bufio.ErrNegativeAdvance", laid_bufio_ErrNegativeAdvance), ("bufio.ErrAdvanceTooFar", laid_bufio_ErrAdvanceTooFar), ("bufio.ErrBadReadCount", laid_bufio_ErrBadReadCount), ("bufio.ErrFinalToken", laid_bufio_ErrFinalToken), ("pub-filiation/pub/gogit/gitattributes.ErrMacroNotAllowed", laid_pub_filiation_pub_gogit_gitattributes_ErrMacroNotAllowed), ("pub-filiation/pub/gogit/gitattributes.ErrInvalidAttributeName", laid_pub_filiation_pub_gogit_gitattributes_ErrInvalidAttributeName)], narrowed := true }
def FnAttrMacroUptoSaid : Prop := fnAttrMacroUptoRow.holds Tryd.pinned (OpenSpec.upto fnAttrMacroSpec)

end Rows
end Go.Proofs.YteipeagdflcjjaaDoor
