/-
  NARROWER THAN 'FOR EVERY INPUT', by the rows' own cells (each row's printed sentence says how): FnDecodedInt: laid.
  DERIVED. THE GIVEN ROWS OF THIS SEAT. 1 by the template 'for every input the law returns true; each argument reads behind the call as it read before'; 0 by the template 'total and deterministic' (their statements: YtnkkpfboaklogaaGreatDoorTotals.lean).
  GIVEN WITH THE SEED: the statements are not yours to turn. If you find one false, say at which input.
  Laid BY PROGRAM, IN A SANDBOX (cutbox-rows.mjs): the forced cells as the released guide's own fill.sh prints them over the translation 6d5fab85f4fe1146… (all of the seat's roots in one cut). By AI agents, Wed Nov 11 2026. No macro, syntax, notation, axiom, sorry.
-/
import Derived.Test.YtnkkpfboaklogaaGreatDoorChecked
import GoSem.Claim
import GoSem.ClaimJoined
import GoSem.ClaimMapViews
import Derived.JoinedTies
import Derived.KernelRfl
namespace Go.Proofs.YtnkkpfboaklogaaGreatDoor
/- THE CELL 'sum', in the pinned program and in every row, IS THE sha256 OF THE DUMP (.gsa) THAT YtnkkpfboaklogaaGreatDoorProg.lean LOADS. Nothing in Lean hashes anything: it is a label: what it is worth is what the hold of that sum in a sandbox is worth. -/
noncomputable def Tryz.pinned : Pinned := { name := "ytnkkpfboaklogaagreatdoor", sum := "6d5fab85f4fe11462128711b7fcd7f346b5f71e8f5f9e8ba683fa5546785be7a", checked := Tryz.checked }
namespace Rows
def none {H : Type} : Left H := { results := [], args := [] }

/- WHAT THE LISTED PACKAGE-LEVEL VARIABLES READ AS WHEN THE CALL BEGINS. Each datum BY PROGRAM (the guide's laid-datum.mjs) off the statement by which the dump's own 'gosem.cut.vars' lays the variable. In a bare row this is a premise. The card (YtnkkpfboaklogaaGreatDoorCards.lean) ties it to the program's text. -/
def laid_internal_strconv_uint64pow10 {H : Type} : DataW H := .agg [.lit (.int .u64 1), .lit (.int .u64 10), .lit (.int .u64 100), .lit (.int .u64 1000), .lit (.int .u64 10000), .lit (.int .u64 100000), .lit (.int .u64 1000000), .lit (.int .u64 10000000), .lit (.int .u64 100000000), .lit (.int .u64 1000000000), .lit (.int .u64 10000000000), .lit (.int .u64 100000000000), .lit (.int .u64 1000000000000), .lit (.int .u64 10000000000000), .lit (.int .u64 100000000000000), .lit (.int .u64 1000000000000000), .lit (.int .u64 10000000000000000), .lit (.int .u64 100000000000000000), .lit (.int .u64 1000000000000000000), .lit (.int .u64 10000000000000000000)]

/-- 'laws.FnDecodedInt': WHATEVER THE INPUT: true; the input reads as it did. -/
def fnDecodedIntSpec : ChangeSpec := { name := "fnDecodedInt", fn := fun _ => fun
  | [d1, d2] => { results := [.lit (.bool true)], args := [d1, d2] }
  | _ => none }
def fnDecodedIntRow : OpenClaim := { program := "ytnkkpfboaklogaagreatdoor", sum := "6d5fab85f4fe11462128711b7fcd7f346b5f71e8f5f9e8ba683fa5546785be7a", func := "given.example/pub-engrossment/laws.FnDecodedInt", spec := "fnDecodedInt", inPlace := ["gosem.stop:internal/strconv.formatBits", "gosem.stop:given.example/pub-engrossment/pub/pq.parseBytea", "gosem.stop:given.example/pub-engrossment/pub/pq.parseTS", "gosem.stop:given.example/pub-engrossment/pub/pq.parseTime", "gosem.stop:internal/strconv.lower", "gosem.stop:internal/strconv.underscoreOK", "gosem.stop:strconv.toError", "gosem.stop:strconv.ParseFloat", "gosem.stop:given.example/pub-engrossment/pub/pq.stampOf"], unfollowed := true, recurses := true, named := ["internal/strconv.uint64pow10"], apart := false, laid := [("internal/strconv.uint64pow10", laid_internal_strconv_uint64pow10)] }
def FnDecodedIntSaid : Prop := fnDecodedIntRow.holds Tryz.pinned (OpenSpec.ofChange fnDecodedIntSpec)

/-- ITS FALSE NEIGHBOUR: 'it returns false'. Refute it at one input. -/
def fnDecodedIntWrong : ChangeSpec := { name := "fnDecodedInt", fn := fun _ => fun
  | [d1, d2] => { results := [.lit (.bool false)], args := [d1, d2] }
  | _ => none }
def FnDecodedIntWrongFalsely : Prop := fnDecodedIntRow.holds Tryz.pinned (OpenSpec.ofChange fnDecodedIntWrong)

/- THE SECOND FORM. 'bulk': how many values and letters a reading holds, each counted each time it is reached (what is shared counts as often as it is met; a slice's spare places count too). A statement '..UptoSaid' is the law's where the arguments, and the package variables that the reading takes, are together of bulk at most 1048576: NARROWER than '..Said'. Prove '..Said' where nothing that the law and all that it calls make is longer than what came in: it says more and counts as full. Else prove '..UptoSaid'. A law counts once. -/
mutual
def uptoBulk {H : Type} : DataW H → Nat
  | .lit (.string bytes) => bytes.length + 1
  | .lit _ => 1
  | .nil => 1
  | .ptr d => uptoBulk d + 1
  | .slice elems spare => uptoBulkAll elems + uptoBulkAll spare + 1
  | .agg parts => uptoBulkAll parts + 1
  | .iface _ d => uptoBulk d + 1
  | .map entries => uptoBulkEntries entries + 1
  | .held _ => 1
def uptoBulkAll {H : Type} : List (DataW H) → Nat
  | [] => 0
  | d :: r => uptoBulk d + uptoBulkAll r
def uptoBulkEntries {H : Type} : List (Lit × DataW H) → Nat
  | [] => 0
  | x :: r => uptoBulkEntry x + uptoBulkEntries r
def uptoBulkEntry {H : Type} : Lit × DataW H → Nat
  | (.string bytes, d) => bytes.length + uptoBulk d + 1
  | (_, d) => uptoBulk d + 1
 end
def uptoSmall : (H : Type) → List (DataW H) → Bool := fun _ ds => decide (uptoBulkAll ds ≤ 1048576)
def OpenSpec.upto (s : _root_.Go.ChangeSpec) : _root_.Go.OpenSpec := { _root_.Go.OpenSpec.ofChange s with cond := some uptoSmall }

/-- 'laws.FnDecodedInt', WHERE WHAT IT READS IS OF BULK AT MOST 1048576: true; the input reads as it did. -/
def fnDecodedIntUptoRow : OpenClaim := { program := "ytnkkpfboaklogaagreatdoor", sum := "6d5fab85f4fe11462128711b7fcd7f346b5f71e8f5f9e8ba683fa5546785be7a", func := "given.example/pub-engrossment/laws.FnDecodedInt", spec := "fnDecodedInt", inPlace := ["gosem.stop:internal/strconv.formatBits", "gosem.stop:given.example/pub-engrossment/pub/pq.parseBytea", "gosem.stop:given.example/pub-engrossment/pub/pq.parseTS", "gosem.stop:given.example/pub-engrossment/pub/pq.parseTime", "gosem.stop:internal/strconv.lower", "gosem.stop:internal/strconv.underscoreOK", "gosem.stop:strconv.toError", "gosem.stop:strconv.ParseFloat", "gosem.stop:given.example/pub-engrossment/pub/pq.stampOf"], unfollowed := true, recurses := true, named := ["internal/strconv.uint64pow10"], apart := false, laid := [("internal/strconv.uint64pow10", laid_internal_strconv_uint64pow10)], narrowed := true }
def FnDecodedIntUptoSaid : Prop := fnDecodedIntUptoRow.holds Tryz.pinned (OpenSpec.upto fnDecodedIntSpec)

end Rows
end Go.Proofs.YtnkkpfboaklogaaGreatDoor
