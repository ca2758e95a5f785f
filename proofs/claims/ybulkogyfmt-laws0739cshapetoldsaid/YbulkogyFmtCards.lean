/-
  DERIVED. GIVEN WITH THE SEED: THE CARDS: each row of YbulkogyFmtRows.lean that lists a variable, with what it lists TIED to the program's text (the seventh form; the later family's looks); each row that meets fmt, with fmt's text TOLD by the authors' own Lean function (tested against real Go, not proved from fmt's source: count such statements apart). THE CARD IS WHAT COUNTS. Prove the row's statement (the work); the ties are given (YbulkogyFmtTie.lean); close each card by the builder's one call (the guide's Derived/Test/ToyasCard.lean, 'card_holds'). Laid BY PROGRAM, IN A SANDBOX (cutbox-door.mjs). By AI agents, Wed Nov 11 2026. No macro, syntax, notation, axiom, sorry.
-/
import Derived.Test.YbulkogyFmtRows
import GoSem.ClaimSeven
namespace Go.Proofs.YbulkogyFmt
namespace Rows

/-- THE TOLD AND TIED CARD OF 'workload.LawS0739CShape'. -/
def lawS0739CShapeCard : Claim7 := { stood := { row := lawS0739CShapeRow, standIns := [], harness := (true, "cd108f3d40b0a62a597927581b3674b3f661bd7ee8d787b3a86487fe5337f275"), looks := false }, told := true, laidByText := true, laidKinds := [.data, .data, .data], laidTests := true, laidLooks := .later, goes := false }
def LawS0739CShapeToldSaid : Prop := Claim7.holds Ybaf.pinned (.plain (OpenSpec.ofChange lawS0739CShapeSpec)) lawS0739CShapeCard
/-- ITS FALSE NEIGHBOUR. Refute it at one input. -/
def LawS0739CShapeToldWrongFalsely : Prop := Claim7.holds Ybaf.pinned (.plain (OpenSpec.ofChange lawS0739CShapeWrong)) lawS0739CShapeCard

/-- THE TOLD AND TIED CARD OF 'workload.LawS0739CDraws'. -/
def lawS0739CDrawsCard : Claim7 := { stood := { row := lawS0739CDrawsRow, standIns := [], harness := (true, "cd108f3d40b0a62a597927581b3674b3f661bd7ee8d787b3a86487fe5337f275"), looks := false }, told := true, laidByText := true, laidKinds := [.data, .data, .data], laidTests := true, laidLooks := .later, goes := false }
def LawS0739CDrawsToldSaid : Prop := Claim7.holds Ybaf.pinned (.plain (OpenSpec.ofChange lawS0739CDrawsSpec)) lawS0739CDrawsCard
/-- ITS FALSE NEIGHBOUR. Refute it at one input. -/
def LawS0739CDrawsToldWrongFalsely : Prop := Claim7.holds Ybaf.pinned (.plain (OpenSpec.ofChange lawS0739CDrawsWrong)) lawS0739CDrawsCard
end Rows
end Go.Proofs.YbulkogyFmt
