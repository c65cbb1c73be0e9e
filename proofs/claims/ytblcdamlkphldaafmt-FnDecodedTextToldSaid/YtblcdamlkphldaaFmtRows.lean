/-
  NARROWER THAN 'FOR EVERY INPUT', by the rows' own cells (each row's printed sentence says how): FnDecodedText: laid.
  DERIVED. THE GIVEN ROWS OF THIS SEAT. 1 by the template 'for every input the law returns true; each argument reads behind the call as it read before'; 0 by the template 'total and deterministic' (their statements: YtblcdamlkphldaaFmtTotals.lean).
  GIVEN WITH THE SEED: the statements are not yours to turn. If you find one false, say at which input.
  Laid BY PROGRAM, IN A SANDBOX (cutbox-rows.mjs): the forced cells as the released guide's own fill.sh prints them over the translation 883f361806562e54… (all of the seat's roots in one cut). By AI agents, Wed Nov 11 2026. No macro, syntax, notation, axiom, sorry.
-/
import Derived.Test.YtblcdamlkphldaaFmtChecked
import GoSem.Claim
import GoSem.ClaimJoined
import GoSem.ClaimMapViews
import Derived.JoinedTies
import Derived.KernelRfl
namespace Go.Proofs.YtblcdamlkphldaaFmt
/- THE CELL 'sum', in the pinned program and in every row, IS THE sha256 OF THE DUMP (.gsa) THAT YtblcdamlkphldaaFmtProg.lean LOADS. Nothing in Lean hashes anything: it is a label: what it is worth is what the hold of that sum in a sandbox is worth. -/
noncomputable def Tryf.pinned : Pinned := { name := "ytblcdamlkphldaafmt", sum := "883f361806562e54135c7d88eb7520a971006f55ccb09b96433bc6ecd9ad5c4b", checked := Tryf.checked }
namespace Rows
def none {H : Type} : Left H := { results := [], args := [] }

/- WHAT THE LISTED PACKAGE-LEVEL VARIABLES READ AS WHEN THE CALL BEGINS. Each datum BY PROGRAM (the guide's laid-datum.mjs) off the statement by which the dump's own 'gosem.cut.vars' lays the variable. In a bare row this is a premise. The card (YtblcdamlkphldaaFmtCards.lean) ties it to the program's text. -/
def laid_encoding_hex_ErrLength {H : Type} : DataW H := .iface "*errors.errorString" (.ptr (.agg [.lit (.string [101, 110, 99, 111, 100, 105, 110, 103, 47, 104, 101, 120, 58, 32, 111, 100, 100, 32, 108, 101, 110, 103, 116, 104, 32, 104, 101, 120, 32, 115, 116, 114, 105, 110, 103])]))

/-- 'laws.FnDecodedText': WHATEVER THE INPUT: true; the input reads as it did. -/
def fnDecodedTextSpec : ChangeSpec := { name := "fnDecodedText", fn := fun _ => fun
  | [d1, d2] => { results := [.lit (.bool true)], args := [d1, d2] }
  | _ => none }
def fnDecodedTextRow : OpenClaim := { program := "ytblcdamlkphldaafmt", sum := "883f361806562e54135c7d88eb7520a971006f55ccb09b96433bc6ecd9ad5c4b", func := "given.example/pub-engrossment/laws.FnDecodedText", spec := "fnDecodedText", stops := ["fmt.Sprintf"], inPlace := ["gosem.stop:strconv.ParseUint", "gosem.stop:given.example/pub-engrossment/pub/pq.zzIndex", "gosem.stop:given.example/pub-engrossment/pub/pq.parseTS", "gosem.stop:given.example/pub-engrossment/pub/pq.parseTime", "gosem.stop:strconv.ParseInt", "gosem.stop:strconv.ParseFloat", "gosem.stop:given.example/pub-engrossment/pub/pq.stampOf"], unfollowed := true, recurses := true, named := ["encoding/hex.ErrLength"], apart := false, laid := [("encoding/hex.ErrLength", laid_encoding_hex_ErrLength)] }
/-- NO THEOREM (fmt's text is open here; it may be false): for the released tool's asking of the row's closed facts alone. THE STATEMENT IS 'FnDecodedTextToldSaid' (YtblcdamlkphldaaFmtCards.lean). -/
def FnDecodedTextFormAsk : Prop := fnDecodedTextRow.holds Tryf.pinned (OpenSpec.ofChange fnDecodedTextSpec)

/-- ITS FALSE NEIGHBOUR: 'it returns false'. Refute it at one input. -/
def fnDecodedTextWrong : ChangeSpec := { name := "fnDecodedText", fn := fun _ => fun
  | [d1, d2] => { results := [.lit (.bool false)], args := [d1, d2] }
  | _ => none }
def FnDecodedTextWrongFormAsk : Prop := fnDecodedTextRow.holds Tryf.pinned (OpenSpec.ofChange fnDecodedTextWrong)

end Rows
end Go.Proofs.YtblcdamlkphldaaFmt
