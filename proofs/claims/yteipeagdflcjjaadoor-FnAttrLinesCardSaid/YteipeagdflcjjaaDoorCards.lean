/-
  DERIVED. GIVEN WITH THE SEED: THE CARDS: each row of YteipeagdflcjjaaDoorRows.lean that lists a variable, with what it lists TIED to the program's text (the seventh form; the later family's looks); each row that meets fmt, with fmt's text TOLD by the authors' own Lean function (tested against real Go, not proved from fmt's source: count such statements apart). THE CARD IS WHAT COUNTS. Prove the row's statement (the work); the ties are given (YteipeagdflcjjaaDoorTie.lean); close each card by the builder's one call (the guide's Derived/Test/ToyasCard.lean, 'card_holds'). Laid BY PROGRAM, IN A SANDBOX (cutbox-door.mjs). By AI agents, Wed Nov 11 2026. No macro, syntax, notation, axiom, sorry.
-/
import Derived.Test.YteipeagdflcjjaaDoorRows
import GoSem.ClaimSeven
namespace Go.Proofs.YteipeagdflcjjaaDoor
namespace Rows

/-- THE TIED CARD OF 'laws.FnGlobNames'. -/
def fnGlobNamesCard : Claim7 := { stood := { row := fnGlobNamesRow, standIns := [], harness := (true, "dfa620ad9d912d271707f616bb1d3c6c1b4b78e0da9edd13f718599093909a9a"), looks := true }, kinds := [], alts := [], laidByText := true, laidKinds := [.data, .sentinel, .pinned], laidTests := true, laidLooks := .later }
def FnGlobNamesCardSaid : Prop := Claim7.holds Tryd.pinned (.plain (OpenSpec.ofChange fnGlobNamesSpec)) fnGlobNamesCard

/-- THE TIED CARD OF 'laws.FnAttrLine'. -/
def fnAttrLineCard : Claim7 := { stood := { row := fnAttrLineRow, standIns := [], harness := (true, "dfa620ad9d912d271707f616bb1d3c6c1b4b78e0da9edd13f718599093909a9a"), looks := true }, kinds := [], alts := [], laidByText := true, laidKinds := [.sentinel, .sentinel], laidTests := true, laidLooks := .later }
def FnAttrLineCardSaid : Prop := Claim7.holds Tryd.pinned (.plain (OpenSpec.ofChange fnAttrLineSpec)) fnAttrLineCard

/-- THE TIED CARD OF 'laws.FnAttrNames'. -/
def fnAttrNamesCard : Claim7 := { stood := { row := fnAttrNamesRow, standIns := [], harness := (true, "dfa620ad9d912d271707f616bb1d3c6c1b4b78e0da9edd13f718599093909a9a"), looks := true }, kinds := [], alts := [], laidByText := true, laidKinds := [.sentinel, .sentinel], laidTests := true, laidLooks := .later }
def FnAttrNamesCardSaid : Prop := Claim7.holds Tryd.pinned (.plain (OpenSpec.ofChange fnAttrNamesSpec)) fnAttrNamesCard

/-- THE TIED CARD OF 'laws.FnAttrAll'. -/
def fnAttrAllCard : Claim7 := { stood := { row := fnAttrAllRow, standIns := [], harness := (true, "dfa620ad9d912d271707f616bb1d3c6c1b4b78e0da9edd13f718599093909a9a"), looks := true }, kinds := [], alts := [], laidByText := true, laidKinds := [.sentinel, .sentinel, .sentinel, .sentinel, .sentinel, .sentinel, .sentinel, .sentinel, .sentinel], laidTests := true, laidLooks := .later }
def FnAttrAllCardSaid : Prop := Claim7.holds Tryd.pinned (.plain (OpenSpec.ofChange fnAttrAllSpec)) fnAttrAllCard

/-- THE TIED CARD OF 'laws.FnAttrLines'. -/
def fnAttrLinesCard : Claim7 := { stood := { row := fnAttrLinesRow, standIns := [], harness := (true, "dfa620ad9d912d271707f616bb1d3c6c1b4b78e0da9edd13f718599093909a9a"), looks := true }, kinds := [], alts := [], laidByText := true, laidKinds := [.sentinel, .sentinel, .sentinel, .sentinel, .sentinel, .sentinel, .sentinel, .sentinel, .sentinel], laidTests := true, laidLooks := .later }
def FnAttrLinesCardSaid : Prop := Claim7.holds Tryd.pinned (.plain (OpenSpec.ofChange fnAttrLinesSpec)) fnAttrLinesCard

/-- THE TIED CARD OF 'laws.FnAttrPaths'. -/
def fnAttrPathsCard : Claim7 := { stood := { row := fnAttrPathsRow, standIns := [], harness := (true, "dfa620ad9d912d271707f616bb1d3c6c1b4b78e0da9edd13f718599093909a9a"), looks := true }, kinds := [], alts := [], laidByText := true, laidKinds := [.sentinel, .sentinel, .sentinel, .sentinel, .sentinel, .sentinel, .sentinel, .sentinel, .sentinel], laidTests := true, laidLooks := .later }
def FnAttrPathsCardSaid : Prop := Claim7.holds Tryd.pinned (.plain (OpenSpec.ofChange fnAttrPathsSpec)) fnAttrPathsCard

/-- THE TIED CARD OF 'laws.FnAttrMacro'. -/
def fnAttrMacroCard : Claim7 := { stood := { row := fnAttrMacroRow, standIns := [], harness := (true, "dfa620ad9d912d271707f616bb1d3c6c1b4b78e0da9edd13f718599093909a9a"), looks := true }, kinds := [], alts := [], laidByText := true, laidKinds := [.sentinel, .sentinel, .sentinel, .sentinel, .sentinel, .sentinel, .sentinel, .sentinel, .sentinel], laidTests := true, laidLooks := .later }
def FnAttrMacroCardSaid : Prop := Claim7.holds Tryd.pinned (.plain (OpenSpec.ofChange fnAttrMacroSpec)) fnAttrMacroCard

/-- THE SECOND FORM's CARD OF 'laws.FnGlobNames'. -/
def fnGlobNamesUptoCard : Claim7 := { stood := { row := fnGlobNamesUptoRow, standIns := [], harness := (true, "dfa620ad9d912d271707f616bb1d3c6c1b4b78e0da9edd13f718599093909a9a"), looks := true }, kinds := [], alts := [], laidByText := true, laidKinds := [.data, .sentinel, .pinned], laidTests := true, laidLooks := .later }
def FnGlobNamesUptoCardSaid : Prop := Claim7.holds Tryd.pinned (.plain (OpenSpec.upto fnGlobNamesSpec)) fnGlobNamesUptoCard

/-- THE SECOND FORM's CARD OF 'laws.FnAttrLine'. -/
def fnAttrLineUptoCard : Claim7 := { stood := { row := fnAttrLineUptoRow, standIns := [], harness := (true, "dfa620ad9d912d271707f616bb1d3c6c1b4b78e0da9edd13f718599093909a9a"), looks := true }, kinds := [], alts := [], laidByText := true, laidKinds := [.sentinel, .sentinel], laidTests := true, laidLooks := .later }
def FnAttrLineUptoCardSaid : Prop := Claim7.holds Tryd.pinned (.plain (OpenSpec.upto fnAttrLineSpec)) fnAttrLineUptoCard

/-- THE SECOND FORM's CARD OF 'laws.FnAttrNames'. -/
def fnAttrNamesUptoCard : Claim7 := { stood := { row := fnAttrNamesUptoRow, standIns := [], harness := (true, "dfa620ad9d912d271707f616bb1d3c6c1b4b78e0da9edd13f718599093909a9a"), looks := true }, kinds := [], alts := [], laidByText := true, laidKinds := [.sentinel, .sentinel], laidTests := true, laidLooks := .later }
def FnAttrNamesUptoCardSaid : Prop := Claim7.holds Tryd.pinned (.plain (OpenSpec.upto fnAttrNamesSpec)) fnAttrNamesUptoCard

/-- THE SECOND FORM's CARD OF 'laws.FnAttrAll'. -/
def fnAttrAllUptoCard : Claim7 := { stood := { row := fnAttrAllUptoRow, standIns := [], harness := (true, "dfa620ad9d912d271707f616bb1d3c6c1b4b78e0da9edd13f718599093909a9a"), looks := true }, kinds := [], alts := [], laidByText := true, laidKinds := [.sentinel, .sentinel, .sentinel, .sentinel, .sentinel, .sentinel, .sentinel, .sentinel, .sentinel], laidTests := true, laidLooks := .later }
def FnAttrAllUptoCardSaid : Prop := Claim7.holds Tryd.pinned (.plain (OpenSpec.upto fnAttrAllSpec)) fnAttrAllUptoCard

/-- THE SECOND FORM's CARD OF 'laws.FnAttrLines'. -/
def fnAttrLinesUptoCard : Claim7 := { stood := { row := fnAttrLinesUptoRow, standIns := [], harness := (true, "dfa620ad9d912d271707f616bb1d3c6c1b4b78e0da9edd13f718599093909a9a"), looks := true }, kinds := [], alts := [], laidByText := true, laidKinds := [.sentinel, .sentinel, .sentinel, .sentinel, .sentinel, .sentinel, .sentinel, .sentinel, .sentinel], laidTests := true, laidLooks := .later }
def FnAttrLinesUptoCardSaid : Prop := Claim7.holds Tryd.pinned (.plain (OpenSpec.upto fnAttrLinesSpec)) fnAttrLinesUptoCard

/-- THE SECOND FORM's CARD OF 'laws.FnAttrPaths'. -/
def fnAttrPathsUptoCard : Claim7 := { stood := { row := fnAttrPathsUptoRow, standIns := [], harness := (true, "dfa620ad9d912d271707f616bb1d3c6c1b4b78e0da9edd13f718599093909a9a"), looks := true }, kinds := [], alts := [], laidByText := true, laidKinds := [.sentinel, .sentinel, .sentinel, .sentinel, .sentinel, .sentinel, .sentinel, .sentinel, .sentinel], laidTests := true, laidLooks := .later }
def FnAttrPathsUptoCardSaid : Prop := Claim7.holds Tryd.pinned (.plain (OpenSpec.upto fnAttrPathsSpec)) fnAttrPathsUptoCard

/-- THE SECOND FORM's CARD OF 'laws.FnAttrMacro'. -/
def fnAttrMacroUptoCard : Claim7 := { stood := { row := fnAttrMacroUptoRow, standIns := [], harness := (true, "dfa620ad9d912d271707f616bb1d3c6c1b4b78e0da9edd13f718599093909a9a"), looks := true }, kinds := [], alts := [], laidByText := true, laidKinds := [.sentinel, .sentinel, .sentinel, .sentinel, .sentinel, .sentinel, .sentinel, .sentinel, .sentinel], laidTests := true, laidLooks := .later }
def FnAttrMacroUptoCardSaid : Prop := Claim7.holds Tryd.pinned (.plain (OpenSpec.upto fnAttrMacroSpec)) fnAttrMacroUptoCard
end Rows
end Go.Proofs.YteipeagdflcjjaaDoor
