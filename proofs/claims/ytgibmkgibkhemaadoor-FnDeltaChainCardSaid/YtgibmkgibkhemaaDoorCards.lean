/-
  DERIVED. GIVEN WITH THE SEED: THE CARDS: each row of YtgibmkgibkhemaaDoorRows.lean that lists a variable, with what it lists TIED to the program's text (the seventh form; the later family's looks); each row that meets fmt, with fmt's text TOLD by the authors' own Lean function (tested against real Go, not proved from fmt's source: count such statements apart). THE CARD IS WHAT COUNTS. Prove the row's statement (the work); the ties are given (YtgibmkgibkhemaaDoorTie.lean); close each card by the builder's one call (the guide's Derived/Test/ToyasCard.lean, 'card_holds'). Laid BY PROGRAM, IN A SANDBOX (cutbox-door.mjs). By AI agents, Wed Nov 11 2026. No macro, syntax, notation, axiom, sorry.
-/
import Derived.Test.YtgibmkgibkhemaaDoorRows
import GoSem.ClaimSeven
namespace Go.Proofs.YtgibmkgibkhemaaDoor
namespace Rows

/-- THE TIED CARD OF 'laws.FnLeb'. -/
def fnLebCard : Claim7 := { stood := { row := fnLebRow, standIns := [], harness := (true, "205759b219820320ae6e3ca0e90d04ebf30b889b74b5134f3ef1f859dc5c305d"), looks := true }, kinds := [], alts := [], laidByText := true, laidKinds := [.sentinel, .sentinel, .sentinel, .sentinel], laidTests := true, laidLooks := .later }
def FnLebCardSaid : Prop := Claim7.holds Tryd.pinned (.plain (OpenSpec.ofChange fnLebSpec)) fnLebCard

/-- THE TIED CARD OF 'laws.FnOffsets'. -/
def fnOffsetsCard : Claim7 := { stood := { row := fnOffsetsRow, standIns := [], harness := (true, "205759b219820320ae6e3ca0e90d04ebf30b889b74b5134f3ef1f859dc5c305d"), looks := true }, kinds := [], alts := [], laidByText := true, laidKinds := [.sentinel, .sentinel, .sentinel, .sentinel, .sentinel, .sentinel, .sentinel, .sentinel, .sentinel], laidTests := true, laidLooks := .later }
def FnOffsetsCardSaid : Prop := Claim7.holds Tryd.pinned (.plain (OpenSpec.ofChange fnOffsetsSpec)) fnOffsetsCard

/-- THE TIED CARD OF 'laws.FnDeltaChain'. -/
def fnDeltaChainCard : Claim7 := { stood := { row := fnDeltaChainRow, standIns := [], harness := (true, "205759b219820320ae6e3ca0e90d04ebf30b889b74b5134f3ef1f859dc5c305d"), looks := true }, kinds := [], alts := [], laidByText := true, laidKinds := [.sentinel, .sentinel, .sentinel, .sentinel], laidTests := true, laidLooks := .later }
def FnDeltaChainCardSaid : Prop := Claim7.holds Tryd.pinned (.plain (OpenSpec.ofChange fnDeltaChainSpec)) fnDeltaChainCard

/-- THE SECOND FORM's CARD OF 'laws.FnLeb'. -/
def fnLebUptoCard : Claim7 := { stood := { row := fnLebUptoRow, standIns := [], harness := (true, "205759b219820320ae6e3ca0e90d04ebf30b889b74b5134f3ef1f859dc5c305d"), looks := true }, kinds := [], alts := [], laidByText := true, laidKinds := [.sentinel, .sentinel, .sentinel, .sentinel], laidTests := true, laidLooks := .later }
def FnLebUptoCardSaid : Prop := Claim7.holds Tryd.pinned (.plain (OpenSpec.upto fnLebSpec)) fnLebUptoCard

/-- THE SECOND FORM's CARD OF 'laws.FnOffsets'. -/
def fnOffsetsUptoCard : Claim7 := { stood := { row := fnOffsetsUptoRow, standIns := [], harness := (true, "205759b219820320ae6e3ca0e90d04ebf30b889b74b5134f3ef1f859dc5c305d"), looks := true }, kinds := [], alts := [], laidByText := true, laidKinds := [.sentinel, .sentinel, .sentinel, .sentinel, .sentinel, .sentinel, .sentinel, .sentinel, .sentinel], laidTests := true, laidLooks := .later }
def FnOffsetsUptoCardSaid : Prop := Claim7.holds Tryd.pinned (.plain (OpenSpec.upto fnOffsetsSpec)) fnOffsetsUptoCard

/-- THE SECOND FORM's CARD OF 'laws.FnDeltaChain'. -/
def fnDeltaChainUptoCard : Claim7 := { stood := { row := fnDeltaChainUptoRow, standIns := [], harness := (true, "205759b219820320ae6e3ca0e90d04ebf30b889b74b5134f3ef1f859dc5c305d"), looks := true }, kinds := [], alts := [], laidByText := true, laidKinds := [.sentinel, .sentinel, .sentinel, .sentinel], laidTests := true, laidLooks := .later }
def FnDeltaChainUptoCardSaid : Prop := Claim7.holds Tryd.pinned (.plain (OpenSpec.upto fnDeltaChainSpec)) fnDeltaChainUptoCard
end Rows
end Go.Proofs.YtgibmkgibkhemaaDoor
