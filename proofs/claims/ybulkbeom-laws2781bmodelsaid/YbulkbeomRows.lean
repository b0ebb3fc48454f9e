/-
  No cell of these rows narrows 'for every input' (looked for: loops, veiled, ifaces, maps, wideKeys, modest, calm, conditions, laid).
  DERIVED. THE GIVEN ROWS OF THIS SEAT. 4 by the template 'for every input the law returns true; each argument reads behind the call as it read before'; 0 by the template 'total and deterministic' (their statements: YbulkbeomTotals.lean).
  GIVEN WITH THE SEED: the statements are not yours to turn. If you find one false, say at which input.
  Laid BY PROGRAM, IN A SANDBOX (cutbox-rows.mjs): the forced cells as the released guide's own fill.sh prints them over the translation c2b15d2eb3a83f84… (all of the seat's roots in one cut). By AI agents, Wed Nov 11 2026. No macro, syntax, notation, axiom, sorry.
-/
import Derived.Test.YbulkbeomChecked
import GoSem.Claim
import GoSem.ClaimJoined
import GoSem.ClaimMapViews
import Derived.JoinedTies
import Derived.KernelRfl
namespace Go.Proofs.Ybulkbeom
/- THE CELL 'sum', in the pinned program and in every row, IS THE sha256 OF THE DUMP (.gsa) THAT YbulkbeomProg.lean LOADS. Nothing in Lean hashes anything: it is a label: what it is worth is what the hold of that sum in a sandbox is worth. -/
noncomputable def Yba.pinned : Pinned := { name := "ybulkbeom", sum := "c2b15d2eb3a83f84e5acc9b0a0775183fca662a1ef59e8895fa24c8935e0b13a", checked := Yba.checked }
namespace Rows
def none {H : Type} : Left H := { results := [], args := [] }

/-- 'pcap.LawS2781AModel': WHATEVER THE INPUT: true; the input reads as it did. -/
def lawS2781AModelSpec : ChangeSpec := { name := "lawS2781AModel", fn := fun _ => fun
  | [d] => { results := [.lit (.bool true)], args := [d] }
  | _ => none }
def lawS2781AModelRow : OpenClaim := { program := "ybulkbeom", sum := "c2b15d2eb3a83f84e5acc9b0a0775183fca662a1ef59e8895fa24c8935e0b13a", func := "example.com/faultline/faultline/pcap.LawS2781AModel", spec := "lawS2781AModel", unfollowed := true, recurses := true, named := ["encoding/binary.LittleEndian", "encoding/binary.BigEndian"], apart := false }
def LawS2781AModelSaid : Prop := lawS2781AModelRow.holds Yba.pinned (OpenSpec.ofChange lawS2781AModelSpec)

/-- ITS FALSE NEIGHBOUR: 'it returns false'. Refute it at one input. -/
def lawS2781AModelWrong : ChangeSpec := { name := "lawS2781AModel", fn := fun _ => fun
  | [d] => { results := [.lit (.bool false)], args := [d] }
  | _ => none }
def LawS2781AModelWrongFalsely : Prop := lawS2781AModelRow.holds Yba.pinned (OpenSpec.ofChange lawS2781AModelWrong)

/-- 'pcap.LawS2781ABuilt': WHATEVER THE INPUT: true; the input reads as it did. -/
def lawS2781ABuiltSpec : ChangeSpec := { name := "lawS2781ABuilt", fn := fun _ => fun
  | [d1, d2] => { results := [.lit (.bool true)], args := [d1, d2] }
  | _ => none }
def lawS2781ABuiltRow : OpenClaim := { program := "ybulkbeom", sum := "c2b15d2eb3a83f84e5acc9b0a0775183fca662a1ef59e8895fa24c8935e0b13a", func := "example.com/faultline/faultline/pcap.LawS2781ABuilt", spec := "lawS2781ABuilt", unfollowed := true, recurses := true, named := ["encoding/binary.BigEndian", "encoding/binary.LittleEndian"], apart := false }
def LawS2781ABuiltSaid : Prop := lawS2781ABuiltRow.holds Yba.pinned (OpenSpec.ofChange lawS2781ABuiltSpec)

/-- ITS FALSE NEIGHBOUR: 'it returns false'. Refute it at one input. -/
def lawS2781ABuiltWrong : ChangeSpec := { name := "lawS2781ABuilt", fn := fun _ => fun
  | [d1, d2] => { results := [.lit (.bool false)], args := [d1, d2] }
  | _ => none }
def LawS2781ABuiltWrongFalsely : Prop := lawS2781ABuiltRow.holds Yba.pinned (OpenSpec.ofChange lawS2781ABuiltWrong)

/-- 'sigtran.LawS2781BModel': WHATEVER THE INPUT: true; the input reads as it did. -/
def lawS2781BModelSpec : ChangeSpec := { name := "lawS2781BModel", fn := fun _ => fun
  | [d1, d2] => { results := [.lit (.bool true)], args := [d1, d2] }
  | _ => none }
def lawS2781BModelRow : OpenClaim := { program := "ybulkbeom", sum := "c2b15d2eb3a83f84e5acc9b0a0775183fca662a1ef59e8895fa24c8935e0b13a", func := "example.com/faultline/faultline/sigtran.LawS2781BModel", spec := "lawS2781BModel", unfollowed := true, recurses := true, apart := false }
def LawS2781BModelSaid : Prop := lawS2781BModelRow.holds Yba.pinned (OpenSpec.ofChange lawS2781BModelSpec)

/-- ITS FALSE NEIGHBOUR: 'it returns false'. Refute it at one input. -/
def lawS2781BModelWrong : ChangeSpec := { name := "lawS2781BModel", fn := fun _ => fun
  | [d1, d2] => { results := [.lit (.bool false)], args := [d1, d2] }
  | _ => none }
def LawS2781BModelWrongFalsely : Prop := lawS2781BModelRow.holds Yba.pinned (OpenSpec.ofChange lawS2781BModelWrong)

/-- 'tcap.LawS2781CWalk': WHATEVER THE INPUT: true; the input reads as it did. -/
def lawS2781CWalkSpec : ChangeSpec := { name := "lawS2781CWalk", fn := fun _ => fun
  | [d] => { results := [.lit (.bool true)], args := [d] }
  | _ => none }
def lawS2781CWalkRow : OpenClaim := { program := "ybulkbeom", sum := "c2b15d2eb3a83f84e5acc9b0a0775183fca662a1ef59e8895fa24c8935e0b13a", func := "example.com/faultline/faultline/tcap.LawS2781CWalk", spec := "lawS2781CWalk", apart := false }
def LawS2781CWalkSaid : Prop := lawS2781CWalkRow.holds Yba.pinned (OpenSpec.ofChange lawS2781CWalkSpec)

/-- ITS FALSE NEIGHBOUR: 'it returns false'. Refute it at one input. -/
def lawS2781CWalkWrong : ChangeSpec := { name := "lawS2781CWalk", fn := fun _ => fun
  | [d] => { results := [.lit (.bool false)], args := [d] }
  | _ => none }
def LawS2781CWalkWrongFalsely : Prop := lawS2781CWalkRow.holds Yba.pinned (OpenSpec.ofChange lawS2781CWalkWrong)

end Rows
end Go.Proofs.Ybulkbeom
