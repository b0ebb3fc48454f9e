/-
  DERIVED. GIVEN WITH THE SEED: THE CARDS: each row of YbulkbeluFmtRows.lean that lists a variable, with what it lists TIED to the program's text (the seventh form; the later family's looks); each row that meets fmt, with fmt's text TOLD by the authors' own Lean function (tested against real Go, not proved from fmt's source: count such statements apart). THE CARD IS WHAT COUNTS. Prove the row's statement (the work); the ties are given (YbulkbeluFmtTie.lean); close each card by the builder's one call (the guide's Derived/Test/ToyasCard.lean, 'card_holds'). Laid BY PROGRAM, IN A SANDBOX (cutbox-door.mjs). By AI agents, Wed Nov 11 2026. No macro, syntax, notation, axiom, sorry.
-/
import Derived.Test.YbulkbeluFmtRows
import GoSem.ClaimSeven
namespace Go.Proofs.YbulkbeluFmt
namespace Rows

/-- THE TOLD AND TIED CARD OF 'pcap.LawS2776BCutShort'. -/
def lawS2776BCutShortCard : Claim7 := { stood := { row := lawS2776BCutShortRow, standIns := [], harness := (true, "4dc404f0ed726e0e40ebb46fad1dca17ab248d4289a677d76e4f16d21f71aa9c"), looks := true }, told := true, laidByText := true, laidKinds := [.sentinel, .sentinel], laidTests := true, laidLooks := .later, goes := false }
def LawS2776BCutShortToldSaid : Prop := Claim7.holds Ybaf.pinned (.plain (OpenSpec.ofChange lawS2776BCutShortSpec)) lawS2776BCutShortCard
/-- ITS FALSE NEIGHBOUR. Refute it at one input. -/
def LawS2776BCutShortToldWrongFalsely : Prop := Claim7.holds Ybaf.pinned (.plain (OpenSpec.ofChange lawS2776BCutShortWrong)) lawS2776BCutShortCard

/-- THE TOLD AND TIED CARD OF 'pcap.LawS2776BOtherWrapped'. -/
def lawS2776BOtherWrappedCard : Claim7 := { stood := { row := lawS2776BOtherWrappedRow, standIns := [], harness := (true, "4dc404f0ed726e0e40ebb46fad1dca17ab248d4289a677d76e4f16d21f71aa9c"), looks := true }, told := true, laidByText := true, laidKinds := [.handle, .sentinel, .sentinel], laidTests := true, laidLooks := .later, goes := false }
def LawS2776BOtherWrappedToldSaid : Prop := Claim7.holds Ybaf.pinned (.plain (OpenSpec.ofChange lawS2776BOtherWrappedSpec)) lawS2776BOtherWrappedCard
/-- ITS FALSE NEIGHBOUR. Refute it at one input. -/
def LawS2776BOtherWrappedToldWrongFalsely : Prop := Claim7.holds Ybaf.pinned (.plain (OpenSpec.ofChange lawS2776BOtherWrappedWrong)) lawS2776BOtherWrappedCard
end Rows
end Go.Proofs.YbulkbeluFmt
