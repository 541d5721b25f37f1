/-
  DERIVED. GIVEN WITH THE SEED: THE CARDS: each row of YtbdgppghkdibfaaGreatDoorRows.lean that lists a variable, with what it lists TIED to the program's text (the seventh form; the later family's looks); each row that meets fmt, with fmt's text TOLD by the authors' own Lean function (tested against real Go, not proved from fmt's source: count such statements apart). THE CARD IS WHAT COUNTS. Prove the row's statement (the work); the ties are given (YtbdgppghkdibfaaGreatDoorTie.lean); close each card by the builder's one call (the guide's Derived/Test/ToyasCard.lean, 'card_holds'). Laid BY PROGRAM, IN A SANDBOX (cutbox-door.mjs). By AI agents, Wed Nov 11 2026. No macro, syntax, notation, axiom, sorry.
-/
import Derived.Test.YtbdgppghkdibfaaGreatDoorRows
import GoSem.ClaimSeven
namespace Go.Proofs.YtbdgppghkdibfaaGreatDoor
namespace Rows

/-- THE TIED CARD OF 'laws.FnImplementsItself'. -/
def fnImplementsItselfCard : Claim7 := { stood := { row := fnImplementsItselfRow, standIns := [], harness := (true, "8faaf472eae19de168f751656f48d473c7ea98ba457deefc073d7028b11ec121"), looks := true }, kinds := [], alts := [], laidByText := true, laidKinds := [.data, .data, .data, .data, .pinned, .pinned, .pinned], laidTests := true, laidLooks := .later }
def FnImplementsItselfCardSaid : Prop := Claim7.holds Tryz.pinned (.plain (OpenSpec.ofChange fnImplementsItselfSpec)) fnImplementsItselfCard

/-- THE SECOND FORM's CARD OF 'laws.FnImplementsItself'. -/
def fnImplementsItselfUptoCard : Claim7 := { stood := { row := fnImplementsItselfUptoRow, standIns := [], harness := (true, "8faaf472eae19de168f751656f48d473c7ea98ba457deefc073d7028b11ec121"), looks := true }, kinds := [], alts := [], laidByText := true, laidKinds := [.data, .data, .data, .data, .pinned, .pinned, .pinned], laidTests := true, laidLooks := .later }
def FnImplementsItselfUptoCardSaid : Prop := Claim7.holds Tryz.pinned (.plain (OpenSpec.upto fnImplementsItselfSpec)) fnImplementsItselfUptoCard
end Rows
end Go.Proofs.YtbdgppghkdibfaaGreatDoor
