/-
  DERIVED. GIVEN WITH THE SEED: THE CARDS: each row of YbulkcruiDoorRows.lean that lists a variable, with what it lists TIED to the program's text (the seventh form; the later family's looks); each row that meets fmt, with fmt's text TOLD by the authors' own Lean function (tested against real Go, not proved from fmt's source: count such statements apart). THE CARD IS WHAT COUNTS. Prove the row's statement (the work); the ties are given (YbulkcruiDoorTie.lean); close each card by the builder's one call (the guide's Derived/Test/ToyasCard.lean, 'card_holds'). Laid BY PROGRAM, IN A SANDBOX (cutbox-door.mjs). By AI agents, Wed Nov 11 2026. No macro, syntax, notation, axiom, sorry.
-/
import Derived.Test.YbulkcruiDoorRows
import GoSem.ClaimSeven
namespace Go.Proofs.YbulkcruiDoor
namespace Rows

/-- THE TIED CARD OF 'sim.LawS4675BRound'. -/
def lawS4675BRoundCard : Claim7 := { stood := { row := lawS4675BRoundRow, standIns := [], harness := (true, "4436d86b29644b9202712f13cf00e07442d504c6838fbef9990a74c16c8ac4a5"), looks := false }, kinds := [], alts := [], laidByText := true, laidKinds := [.data, .data, .data], laidTests := true, laidLooks := .later }
def LawS4675BRoundCardSaid : Prop := Claim7.holds Ybad.pinned (.plain (OpenSpec.ofChange lawS4675BRoundSpec)) lawS4675BRoundCard
end Rows
end Go.Proofs.YbulkcruiDoor
