/-
  DERIVED. GIVEN WITH THE SEED: THE CARDS: each row of YtabjfnkfocnklaaGreatDoorRows.lean that lists a variable, with what it lists TIED to the program's text (the seventh form; the later family's looks); each row that meets fmt, with fmt's text TOLD by the authors' own Lean function (tested against real Go, not proved from fmt's source: count such statements apart). THE CARD IS WHAT COUNTS. Prove the row's statement (the work); the ties are given (YtabjfnkfocnklaaGreatDoorTie.lean); close each card by the builder's one call (the guide's Derived/Test/ToyasCard.lean, 'card_holds'). Laid BY PROGRAM, IN A SANDBOX (cutbox-door.mjs). By AI agents, Wed Nov 11 2026. No macro, syntax, notation, axiom, sorry.
-/
import Derived.Test.YtabjfnkfocnklaaGreatDoorRows
import GoSem.ClaimSeven
namespace Go.Proofs.YtabjfnkfocnklaaGreatDoor
namespace Rows

/-- THE TIED CARD OF 'laws.FnSatisfiesComparable'. -/
def fnSatisfiesComparableCard : Claim7 := { stood := { row := fnSatisfiesComparableRow, standIns := [], harness := (true, "a7fa985630d18e78b2ba03cb9f517790ceddaecaa2a8a759e31ae70b97458476"), looks := true }, kinds := [], alts := [], laidByText := true, laidKinds := [.data, .data, .data, .data, .pinned, .pinned, .pinned], laidTests := true, laidLooks := .later }
def FnSatisfiesComparableCardSaid : Prop := Claim7.holds Tryz.pinned (.plain (OpenSpec.ofChange fnSatisfiesComparableSpec)) fnSatisfiesComparableCard

/-- THE SECOND FORM's CARD OF 'laws.FnSatisfiesComparable'. -/
def fnSatisfiesComparableUptoCard : Claim7 := { stood := { row := fnSatisfiesComparableUptoRow, standIns := [], harness := (true, "a7fa985630d18e78b2ba03cb9f517790ceddaecaa2a8a759e31ae70b97458476"), looks := true }, kinds := [], alts := [], laidByText := true, laidKinds := [.data, .data, .data, .data, .pinned, .pinned, .pinned], laidTests := true, laidLooks := .later }
def FnSatisfiesComparableUptoCardSaid : Prop := Claim7.holds Tryz.pinned (.plain (OpenSpec.upto fnSatisfiesComparableSpec)) fnSatisfiesComparableUptoCard
end Rows
end Go.Proofs.YtabjfnkfocnklaaGreatDoor
