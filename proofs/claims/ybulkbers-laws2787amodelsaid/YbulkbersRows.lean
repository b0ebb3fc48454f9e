/-
  No cell of these rows narrows 'for every input' (looked for: loops, veiled, ifaces, maps, wideKeys, modest, calm, conditions, laid).
  DERIVED. THE GIVEN ROWS OF THIS SEAT. 2 by the template 'for every input the law returns true; each argument reads behind the call as it read before'; 0 by the template 'total and deterministic' (their statements: YbulkbersTotals.lean).
  GIVEN WITH THE SEED: the statements are not yours to turn. If you find one false, say at which input.
  Laid BY PROGRAM, IN A SANDBOX (cutbox-rows.mjs): the forced cells as the released guide's own fill.sh prints them over the translation 3043ee0a7fb5f4ac… (all of the seat's roots in one cut). By AI agents, Wed Nov 11 2026. No macro, syntax, notation, axiom, sorry.
-/
import Derived.Test.YbulkbersChecked
import GoSem.Claim
import GoSem.ClaimJoined
import GoSem.ClaimMapViews
import Derived.JoinedTies
import Derived.KernelRfl
namespace Go.Proofs.Ybulkbers
/- THE CELL 'sum', in the pinned program and in every row, IS THE sha256 OF THE DUMP (.gsa) THAT YbulkbersProg.lean LOADS. Nothing in Lean hashes anything: it is a label: what it is worth is what the hold of that sum in a sandbox is worth. -/
noncomputable def Yba.pinned : Pinned := { name := "ybulkbers", sum := "3043ee0a7fb5f4aca9950217629d8583a7f098f7800fde788a7de78aed782ba2", checked := Yba.checked }
namespace Rows
def none {H : Type} : Left H := { results := [], args := [] }

/-- 'gramarye.LawS2787AModel': WHATEVER THE INPUT: true; the input reads as it did. -/
def lawS2787AModelSpec : ChangeSpec := { name := "lawS2787AModel", fn := fun _ => fun
  | [d1, d2, d3, d4, d5] => { results := [.lit (.bool true)], args := [d1, d2, d3, d4, d5] }
  | _ => none }
def lawS2787AModelRow : OpenClaim := { program := "ybulkbers", sum := "3043ee0a7fb5f4aca9950217629d8583a7f098f7800fde788a7de78aed782ba2", func := "example.com/gramarye/gramarye.LawS2787AModel", spec := "lawS2787AModel", unfollowed := true, recurses := true, apart := false }
def LawS2787AModelSaid : Prop := lawS2787AModelRow.holds Yba.pinned (OpenSpec.ofChange lawS2787AModelSpec)

/-- ITS FALSE NEIGHBOUR: 'it returns false'. Refute it at one input. -/
def lawS2787AModelWrong : ChangeSpec := { name := "lawS2787AModel", fn := fun _ => fun
  | [d1, d2, d3, d4, d5] => { results := [.lit (.bool false)], args := [d1, d2, d3, d4, d5] }
  | _ => none }
def LawS2787AModelWrongFalsely : Prop := lawS2787AModelRow.holds Yba.pinned (OpenSpec.ofChange lawS2787AModelWrong)

/-- 'gramarye.LawS2787AModulo': WHATEVER THE INPUT: true; the input reads as it did. -/
def lawS2787AModuloSpec : ChangeSpec := { name := "lawS2787AModulo", fn := fun _ => fun
  | [d1, d2, d3, d4, d5] => { results := [.lit (.bool true)], args := [d1, d2, d3, d4, d5] }
  | _ => none }
def lawS2787AModuloRow : OpenClaim := { program := "ybulkbers", sum := "3043ee0a7fb5f4aca9950217629d8583a7f098f7800fde788a7de78aed782ba2", func := "example.com/gramarye/gramarye.LawS2787AModulo", spec := "lawS2787AModulo", unfollowed := true, recurses := true, apart := false }
def LawS2787AModuloSaid : Prop := lawS2787AModuloRow.holds Yba.pinned (OpenSpec.ofChange lawS2787AModuloSpec)

/-- ITS FALSE NEIGHBOUR: 'it returns false'. Refute it at one input. -/
def lawS2787AModuloWrong : ChangeSpec := { name := "lawS2787AModulo", fn := fun _ => fun
  | [d1, d2, d3, d4, d5] => { results := [.lit (.bool false)], args := [d1, d2, d3, d4, d5] }
  | _ => none }
def LawS2787AModuloWrongFalsely : Prop := lawS2787AModuloRow.holds Yba.pinned (OpenSpec.ofChange lawS2787AModuloWrong)

end Rows
end Go.Proofs.Ybulkbers
