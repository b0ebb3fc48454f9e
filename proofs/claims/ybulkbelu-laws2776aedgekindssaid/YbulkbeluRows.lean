/-
  No cell of these rows narrows 'for every input' (looked for: loops, veiled, ifaces, maps, wideKeys, modest, calm, conditions, laid).
  DERIVED. THE GIVEN ROWS OF THIS SEAT. 2 by the template 'for every input the law returns true; each argument reads behind the call as it read before'; 0 by the template 'total and deterministic' (their statements: YbulkbeluTotals.lean).
  GIVEN WITH THE SEED: the statements are not yours to turn. If you find one false, say at which input.
  Laid BY PROGRAM, IN A SANDBOX (cutbox-rows.mjs): the forced cells as the released guide's own fill.sh prints them over the translation dc9304f347aeb453… (all of the seat's roots in one cut). By AI agents, Wed Nov 11 2026. No macro, syntax, notation, axiom, sorry.
-/
import Derived.Test.YbulkbeluChecked
import GoSem.Claim
import GoSem.ClaimJoined
import GoSem.ClaimMapViews
import Derived.JoinedTies
import Derived.KernelRfl
namespace Go.Proofs.Ybulkbelu
/- THE CELL 'sum', in the pinned program and in every row, IS THE sha256 OF THE DUMP (.gsa) THAT YbulkbeluProg.lean LOADS. Nothing in Lean hashes anything: it is a label: what it is worth is what the hold of that sum in a sandbox is worth. -/
noncomputable def Yba.pinned : Pinned := { name := "ybulkbelu", sum := "dc9304f347aeb453d4c3574ec29bdfbfc2654758547c90b4f89e966fbbf959b7", checked := Yba.checked }
namespace Rows
def none {H : Type} : Left H := { results := [], args := [] }

/-- 'udpopt.LawS2776AModel': WHATEVER THE INPUT: true; the input reads as it did. -/
def lawS2776AModelSpec : ChangeSpec := { name := "lawS2776AModel", fn := fun _ => fun
  | [d1, d2, d3, d4, d5, d6, d7] => { results := [.lit (.bool true)], args := [d1, d2, d3, d4, d5, d6, d7] }
  | _ => none }
def lawS2776AModelRow : OpenClaim := { program := "ybulkbelu", sum := "dc9304f347aeb453d4c3574ec29bdfbfc2654758547c90b4f89e966fbbf959b7", func := "example.com/flowcarve/flowcarve/pkg/udpopt.LawS2776AModel", spec := "lawS2776AModel", named := ["encoding/binary.BigEndian"], apart := false }
def LawS2776AModelSaid : Prop := lawS2776AModelRow.holds Yba.pinned (OpenSpec.ofChange lawS2776AModelSpec)

/-- ITS FALSE NEIGHBOUR: 'it returns false'. Refute it at one input. -/
def lawS2776AModelWrong : ChangeSpec := { name := "lawS2776AModel", fn := fun _ => fun
  | [d1, d2, d3, d4, d5, d6, d7] => { results := [.lit (.bool false)], args := [d1, d2, d3, d4, d5, d6, d7] }
  | _ => none }
def LawS2776AModelWrongFalsely : Prop := lawS2776AModelRow.holds Yba.pinned (OpenSpec.ofChange lawS2776AModelWrong)

/-- 'udpopt.LawS2776AEdgeKinds': WHATEVER THE INPUT: true; the input reads as it did. -/
def lawS2776AEdgeKindsSpec : ChangeSpec := { name := "lawS2776AEdgeKinds", fn := fun _ => fun
  | [d1, d2, d3, d4, d5, d6, d7] => { results := [.lit (.bool true)], args := [d1, d2, d3, d4, d5, d6, d7] }
  | _ => none }
def lawS2776AEdgeKindsRow : OpenClaim := { program := "ybulkbelu", sum := "dc9304f347aeb453d4c3574ec29bdfbfc2654758547c90b4f89e966fbbf959b7", func := "example.com/flowcarve/flowcarve/pkg/udpopt.LawS2776AEdgeKinds", spec := "lawS2776AEdgeKinds", named := ["encoding/binary.BigEndian"], apart := false }
def LawS2776AEdgeKindsSaid : Prop := lawS2776AEdgeKindsRow.holds Yba.pinned (OpenSpec.ofChange lawS2776AEdgeKindsSpec)

/-- ITS FALSE NEIGHBOUR: 'it returns false'. Refute it at one input. -/
def lawS2776AEdgeKindsWrong : ChangeSpec := { name := "lawS2776AEdgeKinds", fn := fun _ => fun
  | [d1, d2, d3, d4, d5, d6, d7] => { results := [.lit (.bool false)], args := [d1, d2, d3, d4, d5, d6, d7] }
  | _ => none }
def LawS2776AEdgeKindsWrongFalsely : Prop := lawS2776AEdgeKindsRow.holds Yba.pinned (OpenSpec.ofChange lawS2776AEdgeKindsWrong)

end Rows
end Go.Proofs.Ybulkbelu
