/-
  DERIVED. GIVEN WITH THE SEED: THE CARDS: each row of YbulkoboFmtRows.lean that lists a variable, with what it lists TIED to the program's text (the seventh form; the later family's looks); each row that meets fmt, with fmt's text TOLD by the authors' own Lean function (tested against real Go, not proved from fmt's source: count such statements apart). THE CARD IS WHAT COUNTS. Prove the row's statement (the work); the ties are given (YbulkoboFmtTie.lean); close each card by the builder's one call (the guide's Derived/Test/ToyasCard.lean, 'card_holds'). Laid BY PROGRAM, IN A SANDBOX (cutbox-door.mjs). By AI agents, Wed Nov 11 2026. No macro, syntax, notation, axiom, sorry.
-/
import Derived.Test.YbulkoboFmtRows
import GoSem.ClaimSeven
namespace Go.Proofs.YbulkoboFmt
namespace Rows

/-- THE TOLD AND TIED CARD OF 'capture.LawS0729BEnhanced'. -/
def lawS0729BEnhancedCard : Claim7 := { stood := { row := lawS0729BEnhancedRow, standIns := [], harness := (true, "ddbc9d57a99d09b33b4f5fd72a97a0818de7a779c300fd7f0b033bc3d2815c17"), looks := true }, told := true, laidByText := true, laidKinds := [.sentinel, .sentinel, .sentinel], laidTests := true, laidLooks := .later, goes := false }
def LawS0729BEnhancedToldSaid : Prop := Claim7.holds Ybaf.pinned (.plain (OpenSpec.ofChange lawS0729BEnhancedSpec)) lawS0729BEnhancedCard
/-- ITS FALSE NEIGHBOUR. Refute it at one input. -/
def LawS0729BEnhancedToldWrongFalsely : Prop := Claim7.holds Ybaf.pinned (.plain (OpenSpec.ofChange lawS0729BEnhancedWrong)) lawS0729BEnhancedCard

/-- THE TOLD AND TIED CARD OF 'capture.LawS0729BSection'. -/
def lawS0729BSectionCard : Claim7 := { stood := { row := lawS0729BSectionRow, standIns := [], harness := (true, "ddbc9d57a99d09b33b4f5fd72a97a0818de7a779c300fd7f0b033bc3d2815c17"), looks := true }, told := true, laidByText := true, laidKinds := [.sentinel, .sentinel, .sentinel], laidTests := true, laidLooks := .later, goes := false }
def LawS0729BSectionToldSaid : Prop := Claim7.holds Ybaf.pinned (.plain (OpenSpec.ofChange lawS0729BSectionSpec)) lawS0729BSectionCard
/-- ITS FALSE NEIGHBOUR. Refute it at one input. -/
def LawS0729BSectionToldWrongFalsely : Prop := Claim7.holds Ybaf.pinned (.plain (OpenSpec.ofChange lawS0729BSectionWrong)) lawS0729BSectionCard
end Rows
end Go.Proofs.YbulkoboFmt
