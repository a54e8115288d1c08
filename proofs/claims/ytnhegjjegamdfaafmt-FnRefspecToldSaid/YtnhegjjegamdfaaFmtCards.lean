/-
  DERIVED. GIVEN WITH THE SEED: THE CARDS: each row of YtnhegjjegamdfaaFmtRows.lean that lists a variable, with what it lists TIED to the program's text (the seventh form; the later family's looks); each row that meets fmt, with fmt's text TOLD by the authors' own Lean function (tested against real Go, not proved from fmt's source: count such statements apart). THE CARD IS WHAT COUNTS. Prove the row's statement (the work); the ties are given (YtnhegjjegamdfaaFmtTie.lean); close each card by the builder's one call (the guide's Derived/Test/ToyasCard.lean, 'card_holds'). Laid BY PROGRAM, IN A SANDBOX (cutbox-door.mjs). By AI agents, Wed Nov 11 2026. No macro, syntax, notation, axiom, sorry.
-/
import Derived.Test.YtnhegjjegamdfaaFmtRows
import GoSem.ClaimSeven
namespace Go.Proofs.YtnhegjjegamdfaaFmt
namespace Rows

/-- THE TOLD AND TIED CARD OF 'laws.FnRefspecBack'. -/
def fnRefspecBackCard : Claim7 := { stood := { row := fnRefspecBackRow, standIns := [], harness := (true, "2a859651985ef8998e9b9b92883b227639fda8d557019e940ec93ab2cfd0d428"), looks := false }, told := true, laidByText := true, laidKinds := [.data, .data, .data, .sentinel, .sentinel, .sentinel], laidTests := true, laidLooks := .later, goes := false }
def FnRefspecBackToldSaid : Prop := Claim7.holds Tryf.pinned (.plain (OpenSpec.ofChange fnRefspecBackSpec)) fnRefspecBackCard
/-- ITS FALSE NEIGHBOUR. Refute it at one input. -/
def FnRefspecBackToldWrongFalsely : Prop := Claim7.holds Tryf.pinned (.plain (OpenSpec.ofChange fnRefspecBackWrong)) fnRefspecBackCard

/-- THE TOLD AND TIED CARD OF 'laws.FnRefspec'. -/
def fnRefspecCard : Claim7 := { stood := { row := fnRefspecRow, standIns := [], harness := (true, "2a859651985ef8998e9b9b92883b227639fda8d557019e940ec93ab2cfd0d428"), looks := false }, told := true, laidByText := true, laidKinds := [.data, .data, .data, .sentinel, .sentinel, .sentinel], laidTests := true, laidLooks := .later, goes := false }
def FnRefspecToldSaid : Prop := Claim7.holds Tryf.pinned (.plain (OpenSpec.ofChange fnRefspecSpec)) fnRefspecCard
/-- ITS FALSE NEIGHBOUR. Refute it at one input. -/
def FnRefspecToldWrongFalsely : Prop := Claim7.holds Tryf.pinned (.plain (OpenSpec.ofChange fnRefspecWrong)) fnRefspecCard
end Rows
end Go.Proofs.YtnhegjjegamdfaaFmt
