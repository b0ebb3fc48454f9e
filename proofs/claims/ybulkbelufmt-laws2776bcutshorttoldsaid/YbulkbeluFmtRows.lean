/-
  NARROWER THAN 'FOR EVERY INPUT', by the rows' own cells (each row's printed sentence says how): LawS2776BCutShort: laid · LawS2776BOtherWrapped: laid.
  DERIVED. THE GIVEN ROWS OF THIS SEAT. 2 by the template 'for every input the law returns true; each argument reads behind the call as it read before'; 0 by the template 'total and deterministic' (their statements: YbulkbeluFmtTotals.lean).
  GIVEN WITH THE SEED: the statements are not yours to turn. If you find one false, say at which input.
  Laid BY PROGRAM, IN A SANDBOX (cutbox-rows.mjs): the forced cells as the released guide's own fill.sh prints them over the translation 9bec31a1eb395344… (all of the seat's roots in one cut). By AI agents, Wed Nov 11 2026. No macro, syntax, notation, axiom, sorry.
-/
import Derived.Test.YbulkbeluFmtChecked
import GoSem.Claim
import GoSem.ClaimJoined
import GoSem.ClaimMapViews
import Derived.JoinedTies
import Derived.KernelRfl
namespace Go.Proofs.YbulkbeluFmt
/- THE CELL 'sum', in the pinned program and in every row, IS THE sha256 OF THE DUMP (.gsa) THAT YbulkbeluFmtProg.lean LOADS. Nothing in Lean hashes anything: it is a label: what it is worth is what the hold of that sum in a sandbox is worth. -/
noncomputable def Ybaf.pinned : Pinned := { name := "ybulkbelufmt", sum := "9bec31a1eb39534442ef348157a38d7621d055184b7ed5ec57a7cfd650f2d0fb", checked := Ybaf.checked }
namespace Rows
def none {H : Type} : Left H := { results := [], args := [] }

/- WHAT THE LISTED PACKAGE-LEVEL VARIABLES READ AS WHEN THE CALL BEGINS. Each datum BY PROGRAM (the guide's laid-datum.mjs) off the statement by which the dump's own 'gosem.cut.vars' lays the variable. In a bare row this is a premise. The card (YbulkbeluFmtCards.lean) ties it to the program's text. -/
def laid_io_EOF {H : Type} : DataW H := .iface "*errors.errorString" (.ptr (.agg [.lit (.string [69, 79, 70])]))
def laid_io_ErrUnexpectedEOF {H : Type} : DataW H := .iface "*errors.errorString" (.ptr (.agg [.lit (.string [117, 110, 101, 120, 112, 101, 99, 116, 101, 100, 32, 69, 79, 70])]))
def laid_errors_errorType {H : Type} : DataW H := .iface "internal/reflectlite.rtype" (.agg [.ptr (.lit (.string [101, 114, 114, 111, 114]))])

/-- 'pcap.LawS2776BCutShort': WHATEVER THE INPUT: true; the input reads as it did. -/
def lawS2776BCutShortSpec : ChangeSpec := { name := "lawS2776BCutShort", fn := fun _ => fun
  | [d1, d2] => { results := [.lit (.bool true)], args := [d1, d2] }
  | _ => none }
def lawS2776BCutShortRow : OpenClaim := { program := "ybulkbelufmt", sum := "9bec31a1eb39534442ef348157a38d7621d055184b7ed5ec57a7cfd650f2d0fb", func := "example.com/flowcarve/flowcarve/pkg/pcap.LawS2776BCutShort", spec := "lawS2776BCutShort", stops := ["fmt.errorf, its operands' methods called"], inPlace := ["fmt.errorf", "internal/reflectlite.TypeOf"], unfollowed := true, recurses := true, named := ["io.EOF", "io.ErrUnexpectedEOF"], apart := false, laid := [("io.EOF", laid_io_EOF), ("io.ErrUnexpectedEOF", laid_io_ErrUnexpectedEOF)] }
/-- NO THEOREM (fmt's text is open here; it may be false): for the released tool's asking of the row's closed facts alone. THE STATEMENT IS 'LawS2776BCutShortToldSaid' (YbulkbeluFmtCards.lean). -/
def LawS2776BCutShortFormAsk : Prop := lawS2776BCutShortRow.holds Ybaf.pinned (OpenSpec.ofChange lawS2776BCutShortSpec)

/-- ITS FALSE NEIGHBOUR: 'it returns false'. Refute it at one input. -/
def lawS2776BCutShortWrong : ChangeSpec := { name := "lawS2776BCutShort", fn := fun _ => fun
  | [d1, d2] => { results := [.lit (.bool false)], args := [d1, d2] }
  | _ => none }
def LawS2776BCutShortWrongFormAsk : Prop := lawS2776BCutShortRow.holds Ybaf.pinned (OpenSpec.ofChange lawS2776BCutShortWrong)

/-- 'pcap.LawS2776BOtherWrapped': WHATEVER THE INPUT: true; the input reads as it did. -/
def lawS2776BOtherWrappedSpec : ChangeSpec := { name := "lawS2776BOtherWrapped", fn := fun _ => fun
  | [d1, d2] => { results := [.lit (.bool true)], args := [d1, d2] }
  | _ => none }
def lawS2776BOtherWrappedRow : OpenClaim := { program := "ybulkbelufmt", sum := "9bec31a1eb39534442ef348157a38d7621d055184b7ed5ec57a7cfd650f2d0fb", func := "example.com/flowcarve/flowcarve/pkg/pcap.LawS2776BOtherWrapped", spec := "lawS2776BOtherWrapped", stops := ["fmt.errorf, its operands' methods called"], inPlace := ["fmt.errorf", "internal/reflectlite.TypeOf", "internal/reflectlite.ValueOf", "(internal/reflectlite.Value).Type", "(internal/reflectlite.Value).IsNil", "(internal/reflectlite.Value).Elem", "(internal/reflectlite.Value).Set"], unfollowed := true, recurses := true, named := ["io.ErrUnexpectedEOF", "io.EOF", "errors.errorType"], apart := false, laid := [("errors.errorType", laid_errors_errorType), ("io.EOF", laid_io_EOF), ("io.ErrUnexpectedEOF", laid_io_ErrUnexpectedEOF)] }
/-- NO THEOREM (fmt's text is open here; it may be false): for the released tool's asking of the row's closed facts alone. THE STATEMENT IS 'LawS2776BOtherWrappedToldSaid' (YbulkbeluFmtCards.lean). -/
def LawS2776BOtherWrappedFormAsk : Prop := lawS2776BOtherWrappedRow.holds Ybaf.pinned (OpenSpec.ofChange lawS2776BOtherWrappedSpec)

/-- ITS FALSE NEIGHBOUR: 'it returns false'. Refute it at one input. -/
def lawS2776BOtherWrappedWrong : ChangeSpec := { name := "lawS2776BOtherWrapped", fn := fun _ => fun
  | [d1, d2] => { results := [.lit (.bool false)], args := [d1, d2] }
  | _ => none }
def LawS2776BOtherWrappedWrongFormAsk : Prop := lawS2776BOtherWrappedRow.holds Ybaf.pinned (OpenSpec.ofChange lawS2776BOtherWrappedWrong)

end Rows
end Go.Proofs.YbulkbeluFmt
