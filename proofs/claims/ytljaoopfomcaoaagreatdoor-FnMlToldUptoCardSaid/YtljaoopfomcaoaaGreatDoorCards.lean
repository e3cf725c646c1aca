/-
  DERIVED. GIVEN WITH THE SEED: THE CARDS: each row of YtljaoopfomcaoaaGreatDoorRows.lean that lists a variable, with what it lists TIED to the program's text (the seventh form; the later family's looks); each row that meets fmt, with fmt's text TOLD by the authors' own Lean function (tested against real Go, not proved from fmt's source: count such statements apart). THE CARD IS WHAT COUNTS. Prove the row's statement (the work); the ties are given (YtljaoopfomcaoaaGreatDoorTie.lean); close each card by the builder's one call (the guide's Derived/Test/ToyasCard.lean, 'card_holds'). Laid BY PROGRAM, IN A SANDBOX (cutbox-door.mjs). By AI agents, Wed Nov 11 2026. No macro, syntax, notation, axiom, sorry.
-/
import Derived.Test.YtljaoopfomcaoaaGreatDoorRows
import GoSem.ClaimSeven
namespace Go.Proofs.YtljaoopfomcaoaaGreatDoor
namespace Rows

/-- THE TIED CARD OF 'laws.FnMlTold'. -/
def fnMlToldCard : Claim7 := { stood := { row := fnMlToldRow, standIns := [], harness := (true, "0ce879c470f10a6a8d3ef46365b1e7978010cb97ed1d85ea736e9505466747eb"), looks := true }, kinds := [], alts := [], laidByText := true, laidKinds := [.data, .data, .data, .data, .data, .sentinel, .sentinel, .pinned, .pinned, .pinned], laidTests := true, laidLooks := .later }
def FnMlToldCardSaid : Prop := Claim7.holds Tryz.pinned (.plain (OpenSpec.ofChange fnMlToldSpec)) fnMlToldCard

/-- THE SECOND FORM's CARD OF 'laws.FnMlTold'. -/
def fnMlToldUptoCard : Claim7 := { stood := { row := fnMlToldUptoRow, standIns := [], harness := (true, "0ce879c470f10a6a8d3ef46365b1e7978010cb97ed1d85ea736e9505466747eb"), looks := true }, kinds := [], alts := [], laidByText := true, laidKinds := [.data, .data, .data, .data, .data, .sentinel, .sentinel, .pinned, .pinned, .pinned], laidTests := true, laidLooks := .later }
def FnMlToldUptoCardSaid : Prop := Claim7.holds Tryz.pinned (.plain (OpenSpec.upto fnMlToldSpec)) fnMlToldUptoCard
end Rows
end Go.Proofs.YtljaoopfomcaoaaGreatDoor
