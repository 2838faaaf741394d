/-
  DERIVED. GIVEN WITH THE SEED: THE CARDS: each row of YbulkbmaiDoorRows.lean that lists a variable, with what it lists TIED to the program's text (the seventh form; the later family's looks); each row that meets fmt, with fmt's text TOLD by the authors' own Lean function (tested against real Go, not proved from fmt's source: count such statements apart). THE CARD IS WHAT COUNTS. Prove the row's statement (the work); the ties are given (YbulkbmaiDoorTie.lean); close each card by the builder's one call (the guide's Derived/Test/ToyasCard.lean, 'card_holds'). Laid BY PROGRAM, IN A SANDBOX (cutbox-door.mjs). By AI agents, Wed Nov 11 2026. No macro, syntax, notation, axiom, sorry.
-/
import Derived.Test.YbulkbmaiDoorRows
import GoSem.ClaimSeven
namespace Go.Proofs.YbulkbmaiDoor
namespace Rows

/-- THE TIED CARD OF 'traces.LawS3141BModel'. -/
def lawS3141BModelCard : Claim7 := { stood := { row := lawS3141BModelRow, standIns := [], harness := (true, "7216e8d058a41990ae834bd87a8aa79fdfc46cf5558c53f583fde3edba905e17"), looks := true }, kinds := [], alts := [], laidByText := true, laidKinds := [.data, .data, .data, .sentinel, .sentinel], laidTests := true, laidLooks := .later }
def LawS3141BModelCardSaid : Prop := Claim7.holds Ybad.pinned (.plain (OpenSpec.ofChange lawS3141BModelSpec)) lawS3141BModelCard

/-- THE TIED CARD OF 'traces.LawS3141BRound'. -/
def lawS3141BRoundCard : Claim7 := { stood := { row := lawS3141BRoundRow, standIns := [], harness := (true, "7216e8d058a41990ae834bd87a8aa79fdfc46cf5558c53f583fde3edba905e17"), looks := true }, kinds := [], alts := [], laidByText := true, laidKinds := [.data, .data, .data, .sentinel, .sentinel], laidTests := true, laidLooks := .later }
def LawS3141BRoundCardSaid : Prop := Claim7.holds Ybad.pinned (.plain (OpenSpec.ofChange lawS3141BRoundSpec)) lawS3141BRoundCard
end Rows
end Go.Proofs.YbulkbmaiDoor
