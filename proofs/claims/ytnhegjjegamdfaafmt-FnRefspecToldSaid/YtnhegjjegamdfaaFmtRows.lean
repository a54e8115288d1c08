/-
  NARROWER THAN 'FOR EVERY INPUT', by the rows' own cells (each row's printed sentence says how): FnRefspecBack: laid · FnRefspec: laid.
  DERIVED. THE GIVEN ROWS OF THIS SEAT. 2 by the template 'for every input the law returns true; each argument reads behind the call as it read before'; 0 by the template 'total and deterministic' (their statements: YtnhegjjegamdfaaFmtTotals.lean).
  GIVEN WITH THE SEED: the statements are not yours to turn. If you find one false, say at which input.
  Laid BY PROGRAM, IN A SANDBOX (cutbox-rows.mjs): the forced cells as the released guide's own fill.sh prints them over the translation eb0f4300d18905cd… (all of the seat's roots in one cut). By AI agents, Wed Nov 11 2026. No macro, syntax, notation, axiom, sorry.
-/
import Derived.Test.YtnhegjjegamdfaaFmtChecked
import GoSem.Claim
import GoSem.ClaimJoined
import GoSem.ClaimMapViews
import Derived.JoinedTies
import Derived.KernelRfl
namespace Go.Proofs.YtnhegjjegamdfaaFmt
/- THE CELL 'sum', in the pinned program and in every row, IS THE sha256 OF THE DUMP (.gsa) THAT YtnhegjjegamdfaaFmtProg.lean LOADS. Nothing in Lean hashes anything: it is a label: what it is worth is what the hold of that sum in a sandbox is worth. -/
noncomputable def Tryf.pinned : Pinned := { name := "ytnhegjjegamdfaafmt", sum := "eb0f4300d18905cd316f04ebaf99a8d5f3a57b42a966e7a4849a831a3c85d19a", checked := Tryf.checked }
namespace Rows
def none {H : Type} : Left H := { results := [], args := [] }

/- WHAT THE LISTED PACKAGE-LEVEL VARIABLES READ AS WHEN THE CALL BEGINS. Each datum BY PROGRAM (the guide's laid-datum.mjs) off the statement by which the dump's own 'gosem.cut.vars' lays the variable. In a bare row this is a premise. The card (YtnhegjjegamdfaaFmtCards.lean) ties it to the program's text. -/
def laid_math_bits_deBruijn32tab {H : Type} : DataW H := .agg [.lit (.int .u8 0), .lit (.int .u8 1), .lit (.int .u8 28), .lit (.int .u8 2), .lit (.int .u8 29), .lit (.int .u8 14), .lit (.int .u8 24), .lit (.int .u8 3), .lit (.int .u8 30), .lit (.int .u8 22), .lit (.int .u8 20), .lit (.int .u8 15), .lit (.int .u8 25), .lit (.int .u8 17), .lit (.int .u8 4), .lit (.int .u8 8), .lit (.int .u8 31), .lit (.int .u8 27), .lit (.int .u8 13), .lit (.int .u8 23), .lit (.int .u8 21), .lit (.int .u8 19), .lit (.int .u8 16), .lit (.int .u8 7), .lit (.int .u8 26), .lit (.int .u8 12), .lit (.int .u8 18), .lit (.int .u8 6), .lit (.int .u8 11), .lit (.int .u8 5), .lit (.int .u8 10), .lit (.int .u8 9)]
def laid_math_bits_deBruijn64tab {H : Type} : DataW H := .agg [.lit (.int .u8 0), .lit (.int .u8 1), .lit (.int .u8 56), .lit (.int .u8 2), .lit (.int .u8 57), .lit (.int .u8 49), .lit (.int .u8 28), .lit (.int .u8 3), .lit (.int .u8 61), .lit (.int .u8 58), .lit (.int .u8 42), .lit (.int .u8 50), .lit (.int .u8 38), .lit (.int .u8 29), .lit (.int .u8 17), .lit (.int .u8 4), .lit (.int .u8 62), .lit (.int .u8 47), .lit (.int .u8 59), .lit (.int .u8 36), .lit (.int .u8 45), .lit (.int .u8 43), .lit (.int .u8 51), .lit (.int .u8 22), .lit (.int .u8 53), .lit (.int .u8 39), .lit (.int .u8 33), .lit (.int .u8 30), .lit (.int .u8 24), .lit (.int .u8 18), .lit (.int .u8 12), .lit (.int .u8 5), .lit (.int .u8 63), .lit (.int .u8 55), .lit (.int .u8 48), .lit (.int .u8 27), .lit (.int .u8 60), .lit (.int .u8 41), .lit (.int .u8 37), .lit (.int .u8 16), .lit (.int .u8 46), .lit (.int .u8 35), .lit (.int .u8 44), .lit (.int .u8 21), .lit (.int .u8 52), .lit (.int .u8 32), .lit (.int .u8 23), .lit (.int .u8 11), .lit (.int .u8 54), .lit (.int .u8 26), .lit (.int .u8 40), .lit (.int .u8 15), .lit (.int .u8 34), .lit (.int .u8 20), .lit (.int .u8 31), .lit (.int .u8 10), .lit (.int .u8 25), .lit (.int .u8 14), .lit (.int .u8 19), .lit (.int .u8 9), .lit (.int .u8 13), .lit (.int .u8 8), .lit (.int .u8 7), .lit (.int .u8 6)]
def laid_internal_strconv_uint64pow10 {H : Type} : DataW H := .agg [.lit (.int .u64 1), .lit (.int .u64 10), .lit (.int .u64 100), .lit (.int .u64 1000), .lit (.int .u64 10000), .lit (.int .u64 100000), .lit (.int .u64 1000000), .lit (.int .u64 10000000), .lit (.int .u64 100000000), .lit (.int .u64 1000000000), .lit (.int .u64 10000000000), .lit (.int .u64 100000000000), .lit (.int .u64 1000000000000), .lit (.int .u64 10000000000000), .lit (.int .u64 100000000000000), .lit (.int .u64 1000000000000000), .lit (.int .u64 10000000000000000), .lit (.int .u64 100000000000000000), .lit (.int .u64 1000000000000000000), .lit (.int .u64 10000000000000000000)]
def laid_encoding_hex_ErrLength {H : Type} : DataW H := .iface "*errors.errorString" (.ptr (.agg [.lit (.string [101, 110, 99, 111, 100, 105, 110, 103, 47, 104, 101, 120, 58, 32, 111, 100, 100, 32, 108, 101, 110, 103, 116, 104, 32, 104, 101, 120, 32, 115, 116, 114, 105, 110, 103])]))
def laid_pub_filiation_pub_gogit_config_ErrRefSpecMalformedSeparator {H : Type} : DataW H := .iface "*errors.errorString" (.ptr (.agg [.lit (.string [109, 97, 108, 102, 111, 114, 109, 101, 100, 32, 114, 101, 102, 115, 112, 101, 99, 44, 32, 115, 101, 112, 97, 114, 97, 116, 111, 114, 115, 32, 97, 114, 101, 32, 119, 114, 111, 110, 103])]))
def laid_pub_filiation_pub_gogit_config_ErrRefSpecMalformedWildcard {H : Type} : DataW H := .iface "*errors.errorString" (.ptr (.agg [.lit (.string [109, 97, 108, 102, 111, 114, 109, 101, 100, 32, 114, 101, 102, 115, 112, 101, 99, 44, 32, 109, 105, 115, 109, 97, 116, 99, 104, 101, 100, 32, 110, 117, 109, 98, 101, 114, 32, 111, 102, 32, 119, 105, 108, 100, 99, 97, 114, 100, 115])]))

/-- 'laws.FnRefspecBack': WHATEVER THE INPUT: true; the input reads as it did. -/
def fnRefspecBackSpec : ChangeSpec := { name := "fnRefspecBack", fn := fun _ => fun
  | [d1, d2] => { results := [.lit (.bool true)], args := [d1, d2] }
  | _ => none }
def fnRefspecBackRow : OpenClaim := { program := "ytnhegjjegamdfaafmt", sum := "eb0f4300d18905cd316f04ebaf99a8d5f3a57b42a966e7a4849a831a3c85d19a", func := "pub-filiation/laws.FnRefspecBack", spec := "fnRefspecBack", stops := ["fmt.Sprintf"], unfollowed := true, recurses := true, named := ["pub-filiation/pub/gogit/config.ErrRefSpecMalformedSeparator", "pub-filiation/pub/gogit/config.ErrRefSpecMalformedWildcard", "encoding/hex.ErrLength", "internal/strconv.uint64pow10", "math/bits.deBruijn32tab", "math/bits.deBruijn64tab"], apart := false, laid := [("math/bits.deBruijn32tab", laid_math_bits_deBruijn32tab), ("math/bits.deBruijn64tab", laid_math_bits_deBruijn64tab), ("internal/strconv.uint64pow10", laid_internal_strconv_uint64pow10), ("encoding/hex.ErrLength", laid_encoding_hex_ErrLength), ("pub-filiation/pub/gogit/config.ErrRefSpecMalformedSeparator", laid_pub_filiation_pub_gogit_config_ErrRefSpecMalformedSeparator), ("pub-filiation/pub/gogit/config.ErrRefSpecMalformedWildcard", laid_pub_filiation_pub_gogit_config_ErrRefSpecMalformedWildcard)] }
/-- NO THEOREM (fmt's text is open here; it may be false): for the released tool's asking of the row's closed facts alone. THE STATEMENT IS 'FnRefspecBackToldSaid' (YtnhegjjegamdfaaFmtCards.lean). -/
def FnRefspecBackFormAsk : Prop := fnRefspecBackRow.holds Tryf.pinned (OpenSpec.ofChange fnRefspecBackSpec)

/-- ITS FALSE NEIGHBOUR: 'it returns false'. Refute it at one input. -/
def fnRefspecBackWrong : ChangeSpec := { name := "fnRefspecBack", fn := fun _ => fun
  | [d1, d2] => { results := [.lit (.bool false)], args := [d1, d2] }
  | _ => none }
def FnRefspecBackWrongFormAsk : Prop := fnRefspecBackRow.holds Tryf.pinned (OpenSpec.ofChange fnRefspecBackWrong)

/-- 'laws.FnRefspec': WHATEVER THE INPUT: true; the input reads as it did. -/
def fnRefspecSpec : ChangeSpec := { name := "fnRefspec", fn := fun _ => fun
  | [d1, d2] => { results := [.lit (.bool true)], args := [d1, d2] }
  | _ => none }
def fnRefspecRow : OpenClaim := { program := "ytnhegjjegamdfaafmt", sum := "eb0f4300d18905cd316f04ebaf99a8d5f3a57b42a966e7a4849a831a3c85d19a", func := "pub-filiation/laws.FnRefspec", spec := "fnRefspec", stops := ["fmt.Sprintf"], unfollowed := true, recurses := true, named := ["pub-filiation/pub/gogit/config.ErrRefSpecMalformedSeparator", "pub-filiation/pub/gogit/config.ErrRefSpecMalformedWildcard", "encoding/hex.ErrLength", "internal/strconv.uint64pow10", "math/bits.deBruijn32tab", "math/bits.deBruijn64tab"], apart := false, laid := [("math/bits.deBruijn32tab", laid_math_bits_deBruijn32tab), ("math/bits.deBruijn64tab", laid_math_bits_deBruijn64tab), ("internal/strconv.uint64pow10", laid_internal_strconv_uint64pow10), ("encoding/hex.ErrLength", laid_encoding_hex_ErrLength), ("pub-filiation/pub/gogit/config.ErrRefSpecMalformedSeparator", laid_pub_filiation_pub_gogit_config_ErrRefSpecMalformedSeparator), ("pub-filiation/pub/gogit/config.ErrRefSpecMalformedWildcard", laid_pub_filiation_pub_gogit_config_ErrRefSpecMalformedWildcard)] }
/-- NO THEOREM (fmt's text is open here; it may be false): for the released tool's asking of the row's closed facts alone. THE STATEMENT IS 'FnRefspecToldSaid' (YtnhegjjegamdfaaFmtCards.lean). -/
def FnRefspecFormAsk : Prop := fnRefspecRow.holds Tryf.pinned (OpenSpec.ofChange fnRefspecSpec)

/-- ITS FALSE NEIGHBOUR: 'it returns false'. Refute it at one input. -/
def fnRefspecWrong : ChangeSpec := { name := "fnRefspec", fn := fun _ => fun
  | [d1, d2] => { results := [.lit (.bool false)], args := [d1, d2] }
  | _ => none }
def FnRefspecWrongFormAsk : Prop := fnRefspecRow.holds Tryf.pinned (OpenSpec.ofChange fnRefspecWrong)

end Rows
end Go.Proofs.YtnhegjjegamdfaaFmt
