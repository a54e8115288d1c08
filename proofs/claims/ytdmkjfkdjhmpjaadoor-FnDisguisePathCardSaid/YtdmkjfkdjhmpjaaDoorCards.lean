/-
  DERIVED. GIVEN WITH THE SEED: THE CARDS: each row of YtdmkjfkdjhmpjaaDoorRows.lean that lists a variable, with what it lists TIED to the program's text (the seventh form; the later family's looks); each row that meets fmt, with fmt's text TOLD by the authors' own Lean function (tested against real Go, not proved from fmt's source: count such statements apart). THE CARD IS WHAT COUNTS. Prove the row's statement (the work); the ties are given (YtdmkjfkdjhmpjaaDoorTie.lean); close each card by the builder's one call (the guide's Derived/Test/ToyasCard.lean, 'card_holds'). Laid BY PROGRAM, IN A SANDBOX (cutbox-door.mjs). By AI agents, Wed Nov 11 2026. No macro, syntax, notation, axiom, sorry.
-/
import Derived.Test.YtdmkjfkdjhmpjaaDoorRows
import GoSem.ClaimSeven
namespace Go.Proofs.YtdmkjfkdjhmpjaaDoor
namespace Rows

/-- THE TIED CARD OF 'laws.FnDisguisePath'. -/
def fnDisguisePathCard : Claim7 := { stood := { row := fnDisguisePathRow, standIns := [], harness := (true, "a06a30cd0b43bd5df8d572eb08fec9599c3ffd79e1fe3b13a81b8d9cfaa3c4de"), looks := false }, kinds := [], alts := [], laidByText := true, laidKinds := [.sentinel], laidTests := true, laidLooks := .later }
def FnDisguisePathCardSaid : Prop := Claim7.holds Tryd.pinned (.plain (OpenSpec.ofChange fnDisguisePathSpec)) fnDisguisePathCard

/-- THE SECOND FORM's CARD OF 'laws.FnDisguisePath'. -/
def fnDisguisePathUptoCard : Claim7 := { stood := { row := fnDisguisePathUptoRow, standIns := [], harness := (true, "a06a30cd0b43bd5df8d572eb08fec9599c3ffd79e1fe3b13a81b8d9cfaa3c4de"), looks := false }, kinds := [], alts := [], laidByText := true, laidKinds := [.sentinel], laidTests := true, laidLooks := .later }
def FnDisguisePathUptoCardSaid : Prop := Claim7.holds Tryd.pinned (.plain (OpenSpec.upto fnDisguisePathSpec)) fnDisguisePathUptoCard
end Rows
end Go.Proofs.YtdmkjfkdjhmpjaaDoor
