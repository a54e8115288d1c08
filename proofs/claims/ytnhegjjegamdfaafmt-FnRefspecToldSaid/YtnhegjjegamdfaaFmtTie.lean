/-
  DERIVED. GIVEN WITH THE SEED: THE PROGRAM's TIES (one call each: nine closed facts by the kernel) AND EACH ROW's TIE, after the 31st guide's Derived/Test/Toyas{Tie, Card}.lean. No idea stands in it: it is a product of the set-up. Laid BY PROGRAM, IN A SANDBOX (cutbox-door.mjs). By AI agents, Wed Nov 11 2026. No macro, syntax, notation, axiom, sorry.
-/
import Derived.Test.YtnhegjjegamdfaaFmtRows
import Derived.LaidByTextLater
import Derived.SevenTiedAt
import Derived.LaidSub
import Derived.LaidOnce
namespace Go.Proofs.YtnhegjjegamdfaaFmt
open Go
set_option maxRecDepth 100000
theorem seatTie1 : Tryf.prog.laidByTextLater [("math/bits.deBruijn32tab", Rows.laid_math_bits_deBruijn32tab), ("math/bits.deBruijn64tab", Rows.laid_math_bits_deBruijn64tab), ("internal/strconv.uint64pow10", Rows.laid_internal_strconv_uint64pow10), ("encoding/hex.ErrLength", Rows.laid_encoding_hex_ErrLength), ("pub-filiation/pub/gogit/config.ErrRefSpecMalformedSeparator", Rows.laid_pub_filiation_pub_gogit_config_ErrRefSpecMalformedSeparator), ("pub-filiation/pub/gogit/config.ErrRefSpecMalformedWildcard", Rows.laid_pub_filiation_pub_gogit_config_ErrRefSpecMalformedWildcard)] [.data, .data, .data, .sentinel, .sentinel, .sentinel] true :=
  Program.laidByTextLater_by_one 81 8 65 (by kernel_rfl) (by kernel_rfl) (by kernel_rfl) (by kernel_rfl) (by kernel_rfl) (by kernel_rfl) (fun _ _ => by kernel_rfl)
theorem noOwnUnsafe : Tryf.pinned.checked.prog.headLifts.contains "ownunsafe" = false := by kernel_rfl
theorem tie : Tryf.prog.laidByTextLater [("math/bits.deBruijn32tab", Rows.laid_math_bits_deBruijn32tab), ("math/bits.deBruijn64tab", Rows.laid_math_bits_deBruijn64tab), ("internal/strconv.uint64pow10", Rows.laid_internal_strconv_uint64pow10), ("encoding/hex.ErrLength", Rows.laid_encoding_hex_ErrLength), ("pub-filiation/pub/gogit/config.ErrRefSpecMalformedSeparator", Rows.laid_pub_filiation_pub_gogit_config_ErrRefSpecMalformedSeparator), ("pub-filiation/pub/gogit/config.ErrRefSpecMalformedWildcard", Rows.laid_pub_filiation_pub_gogit_config_ErrRefSpecMalformedWildcard)] [.data, .data, .data, .sentinel, .sentinel, .sentinel] true :=
  Program.laidByTextLater.sub seatTie1 ["math/bits.deBruijn32tab", "math/bits.deBruijn64tab", "internal/strconv.uint64pow10", "encoding/hex.ErrLength", "pub-filiation/pub/gogit/config.ErrRefSpecMalformedSeparator", "pub-filiation/pub/gogit/config.ErrRefSpecMalformedWildcard"] (by kernel_rfl) (by kernel_rfl)
theorem fnRefspecBack_row_tie : Rows.fnRefspecBackRow.laidByTextAt .later Tryf.pinned [.data, .data, .data, .sentinel, .sentinel, .sentinel] true :=
  OpenClaim.laidByTextAt_later rfl rfl tie noOwnUnsafe
theorem fnRefspec_row_tie : Rows.fnRefspecRow.laidByTextAt .later Tryf.pinned [.data, .data, .data, .sentinel, .sentinel, .sentinel] true :=
  OpenClaim.laidByTextAt_later rfl rfl tie noOwnUnsafe
end Go.Proofs.YtnhegjjegamdfaaFmt
