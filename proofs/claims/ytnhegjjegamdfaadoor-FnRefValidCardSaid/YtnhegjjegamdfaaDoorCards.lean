/-
  DERIVED. GIVEN WITH THE SEED: THE CARDS: each row of YtnhegjjegamdfaaDoorRows.lean that lists a variable, with what it lists TIED to the program's text (the seventh form; the later family's looks); each row that meets fmt, with fmt's text TOLD by the authors' own Lean function (tested against real Go, not proved from fmt's source: count such statements apart). THE CARD IS WHAT COUNTS. Prove the row's statement (the work); the ties are given (YtnhegjjegamdfaaDoorTie.lean); close each card by the builder's one call (the guide's Derived/Test/ToyasCard.lean, 'card_holds'). Laid BY PROGRAM, IN A SANDBOX (cutbox-door.mjs). By AI agents, Wed Nov 11 2026. No macro, syntax, notation, axiom, sorry.
-/
import Derived.Test.YtnhegjjegamdfaaDoorRows
import GoSem.ClaimSeven
namespace Go.Proofs.YtnhegjjegamdfaaDoor
namespace Rows

/-- THE TIED CARD OF 'laws.FnRefSafe'. -/
def fnRefSafeCard : Claim7 := { stood := { row := fnRefSafeRow, standIns := [], harness := (true, "06398160c5bf55374567be0531e6d3b0fa71766c462a573af53d1f63c2e3303d"), looks := false }, kinds := [], alts := [], laidByText := true, laidKinds := [.data, .data, .data, .sentinel], laidTests := true, laidLooks := .later }
def FnRefSafeCardSaid : Prop := Claim7.holds Tryd.pinned (.plain (OpenSpec.ofChange fnRefSafeSpec)) fnRefSafeCard

/-- THE TIED CARD OF 'laws.FnRefValid'. -/
def fnRefValidCard : Claim7 := { stood := { row := fnRefValidRow, standIns := [], harness := (true, "06398160c5bf55374567be0531e6d3b0fa71766c462a573af53d1f63c2e3303d"), looks := false }, kinds := [], alts := [], laidByText := true, laidKinds := [.data, .data, .data, .sentinel], laidTests := true, laidLooks := .later }
def FnRefValidCardSaid : Prop := Claim7.holds Tryd.pinned (.plain (OpenSpec.ofChange fnRefValidSpec)) fnRefValidCard

/-- THE SECOND FORM's CARD OF 'laws.FnRefSafe'. -/
def fnRefSafeUptoCard : Claim7 := { stood := { row := fnRefSafeUptoRow, standIns := [], harness := (true, "06398160c5bf55374567be0531e6d3b0fa71766c462a573af53d1f63c2e3303d"), looks := false }, kinds := [], alts := [], laidByText := true, laidKinds := [.data, .data, .data, .sentinel], laidTests := true, laidLooks := .later }
def FnRefSafeUptoCardSaid : Prop := Claim7.holds Tryd.pinned (.plain (OpenSpec.upto fnRefSafeSpec)) fnRefSafeUptoCard

/-- THE SECOND FORM's CARD OF 'laws.FnRefValid'. -/
def fnRefValidUptoCard : Claim7 := { stood := { row := fnRefValidUptoRow, standIns := [], harness := (true, "06398160c5bf55374567be0531e6d3b0fa71766c462a573af53d1f63c2e3303d"), looks := false }, kinds := [], alts := [], laidByText := true, laidKinds := [.data, .data, .data, .sentinel], laidTests := true, laidLooks := .later }
def FnRefValidUptoCardSaid : Prop := Claim7.holds Tryd.pinned (.plain (OpenSpec.upto fnRefValidSpec)) fnRefValidUptoCard
end Rows
end Go.Proofs.YtnhegjjegamdfaaDoor
