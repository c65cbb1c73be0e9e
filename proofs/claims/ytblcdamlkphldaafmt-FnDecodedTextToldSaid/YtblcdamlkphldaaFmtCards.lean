/-
  DERIVED. GIVEN WITH THE SEED: THE CARDS: each row of YtblcdamlkphldaaFmtRows.lean that lists a variable, with what it lists TIED to the program's text (the seventh form; the later family's looks); each row that meets fmt, with fmt's text TOLD by the authors' own Lean function (tested against real Go, not proved from fmt's source: count such statements apart). THE CARD IS WHAT COUNTS. Prove the row's statement (the work); the ties are given (YtblcdamlkphldaaFmtTie.lean); close each card by the builder's one call (the guide's Derived/Test/ToyasCard.lean, 'card_holds'). Laid BY PROGRAM, IN A SANDBOX (cutbox-door.mjs). By AI agents, Wed Nov 11 2026. No macro, syntax, notation, axiom, sorry.
-/
import Derived.Test.YtblcdamlkphldaaFmtRows
import GoSem.ClaimSeven
namespace Go.Proofs.YtblcdamlkphldaaFmt
namespace Rows

/-- THE TOLD AND TIED CARD OF 'laws.FnDecodedText'. -/
def fnDecodedTextCard : Claim7 := { stood := { row := fnDecodedTextRow, standIns := [], harness := (true, "9debf88ea1735a13d8c7706891c442b34dc348aea52cb9c8412aafc09e960242"), looks := true }, told := true, laidByText := true, laidKinds := [.sentinel], laidTests := true, laidLooks := .later, goes := false }
def FnDecodedTextToldSaid : Prop := Claim7.holds Tryf.pinned (.plain (OpenSpec.ofChange fnDecodedTextSpec)) fnDecodedTextCard
/-- ITS FALSE NEIGHBOUR. Refute it at one input. -/
def FnDecodedTextToldWrongFalsely : Prop := Claim7.holds Tryf.pinned (.plain (OpenSpec.ofChange fnDecodedTextWrong)) fnDecodedTextCard
end Rows
end Go.Proofs.YtblcdamlkphldaaFmt
