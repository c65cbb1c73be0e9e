/-
  DERIVED. GIVEN WITH THE SEED: THE CARDS: each row of YtnkkpfboaklogaaGreatDoorRows.lean that lists a variable, with what it lists TIED to the program's text (the seventh form; the later family's looks); each row that meets fmt, with fmt's text TOLD by the authors' own Lean function (tested against real Go, not proved from fmt's source: count such statements apart). THE CARD IS WHAT COUNTS. Prove the row's statement (the work); the ties are given (YtnkkpfboaklogaaGreatDoorTie.lean); close each card by the builder's one call (the guide's Derived/Test/ToyasCard.lean, 'card_holds'). Laid BY PROGRAM, IN A SANDBOX (cutbox-door.mjs). By AI agents, Wed Nov 11 2026. No macro, syntax, notation, axiom, sorry.
-/
import Derived.Test.YtnkkpfboaklogaaGreatDoorRows
import GoSem.ClaimSeven
namespace Go.Proofs.YtnkkpfboaklogaaGreatDoor
namespace Rows

/-- THE TIED CARD OF 'laws.FnDecodedInt'. -/
def fnDecodedIntCard : Claim7 := { stood := { row := fnDecodedIntRow, standIns := [], harness := (true, "703de0d456502be377bbcb8d095e1d58bc342aa490cdf4895aafb6deece110b9"), looks := true }, kinds := [], alts := [], laidByText := true, laidKinds := [.data], laidTests := true, laidLooks := .later }
def FnDecodedIntCardSaid : Prop := Claim7.holds Tryz.pinned (.plain (OpenSpec.ofChange fnDecodedIntSpec)) fnDecodedIntCard

/-- THE SECOND FORM's CARD OF 'laws.FnDecodedInt'. -/
def fnDecodedIntUptoCard : Claim7 := { stood := { row := fnDecodedIntUptoRow, standIns := [], harness := (true, "703de0d456502be377bbcb8d095e1d58bc342aa490cdf4895aafb6deece110b9"), looks := true }, kinds := [], alts := [], laidByText := true, laidKinds := [.data], laidTests := true, laidLooks := .later }
def FnDecodedIntUptoCardSaid : Prop := Claim7.holds Tryz.pinned (.plain (OpenSpec.upto fnDecodedIntSpec)) fnDecodedIntUptoCard
end Rows
end Go.Proofs.YtnkkpfboaklogaaGreatDoor
