/-
  No cell of these rows narrows 'for every input' (looked for: loops, veiled, ifaces, maps, wideKeys, modest, calm, conditions, laid).
  DERIVED. THE GIVEN ROWS OF THIS SEAT. 2 by the template 'for every input the law returns true; each argument reads behind the call as it read before'; 0 by the template 'total and deterministic' (their statements: YbulkogyTotals.lean).
  GIVEN WITH THE SEED: the statements are not yours to turn. If you find one false, say at which input.
  Laid BY PROGRAM, IN A SANDBOX (cutbox-rows.mjs): the forced cells as the released guide's own fill.sh prints them over the translation 74d1560276339f34… (all of the seat's roots in one cut). By AI agents, Wed Nov 11 2026. No macro, syntax, notation, axiom, sorry.
-/
import Derived.Test.YbulkogyChecked
import GoSem.Claim
import GoSem.ClaimJoined
import GoSem.ClaimMapViews
import Derived.JoinedTies
import Derived.KernelRfl
namespace Go.Proofs.Ybulkogy
/- THE CELL 'sum', in the pinned program and in every row, IS THE sha256 OF THE DUMP (.gsa) THAT YbulkogyProg.lean LOADS. Nothing in Lean hashes anything: it is a label: what it is worth is what the hold of that sum in a sandbox is worth. -/
noncomputable def Yba.pinned : Pinned := { name := "ybulkogy", sum := "74d1560276339f34bf4a830fab64e09932823bda7cf50251849c24cbbf086133", checked := Yba.checked }
namespace Rows
def none {H : Type} : Left H := { results := [], args := [] }

/-- 'score.LawS0739AMatchesCausality': WHATEVER THE INPUT: true; the input reads as it did. -/
def lawS0739AMatchesCausalitySpec : ChangeSpec := { name := "lawS0739AMatchesCausality", fn := fun _ => fun
  | [d1, d2, d3, d4, d5] => { results := [.lit (.bool true)], args := [d1, d2, d3, d4, d5] }
  | _ => none }
def lawS0739AMatchesCausalityRow : OpenClaim := { program := "ybulkogy", sum := "74d1560276339f34bf4a830fab64e09932823bda7cf50251849c24cbbf086133", func := "example.com/precedes/precedes/score.LawS0739AMatchesCausality", spec := "lawS0739AMatchesCausality", unfollowed := true, recurses := true, apart := false }
def LawS0739AMatchesCausalitySaid : Prop := lawS0739AMatchesCausalityRow.holds Yba.pinned (OpenSpec.ofChange lawS0739AMatchesCausalitySpec)

/-- ITS FALSE NEIGHBOUR: 'it returns false'. Refute it at one input. -/
def lawS0739AMatchesCausalityWrong : ChangeSpec := { name := "lawS0739AMatchesCausality", fn := fun _ => fun
  | [d1, d2, d3, d4, d5] => { results := [.lit (.bool false)], args := [d1, d2, d3, d4, d5] }
  | _ => none }
def LawS0739AMatchesCausalityWrongFalsely : Prop := lawS0739AMatchesCausalityRow.holds Yba.pinned (OpenSpec.ofChange lawS0739AMatchesCausalityWrong)

/-- 'score.LawS0739ASplitRange': WHATEVER THE INPUT: true; the input reads as it did. -/
def lawS0739ASplitRangeSpec : ChangeSpec := { name := "lawS0739ASplitRange", fn := fun _ => fun
  | [d1, d2, d3, d4, d5, d6] => { results := [.lit (.bool true)], args := [d1, d2, d3, d4, d5, d6] }
  | _ => none }
def lawS0739ASplitRangeRow : OpenClaim := { program := "ybulkogy", sum := "74d1560276339f34bf4a830fab64e09932823bda7cf50251849c24cbbf086133", func := "example.com/precedes/precedes/score.LawS0739ASplitRange", spec := "lawS0739ASplitRange", unfollowed := true, recurses := true, apart := false }
def LawS0739ASplitRangeSaid : Prop := lawS0739ASplitRangeRow.holds Yba.pinned (OpenSpec.ofChange lawS0739ASplitRangeSpec)

/-- ITS FALSE NEIGHBOUR: 'it returns false'. Refute it at one input. -/
def lawS0739ASplitRangeWrong : ChangeSpec := { name := "lawS0739ASplitRange", fn := fun _ => fun
  | [d1, d2, d3, d4, d5, d6] => { results := [.lit (.bool false)], args := [d1, d2, d3, d4, d5, d6] }
  | _ => none }
def LawS0739ASplitRangeWrongFalsely : Prop := lawS0739ASplitRangeRow.holds Yba.pinned (OpenSpec.ofChange lawS0739ASplitRangeWrong)

end Rows
end Go.Proofs.Ybulkogy
