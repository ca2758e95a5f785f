/-
  No cell of these rows narrows 'for every input' (looked for: loops, veiled, ifaces, maps, wideKeys, modest, calm, conditions, laid).
  DERIVED. THE GIVEN ROWS OF THIS SEAT. 1 by the template 'for every input the law returns true; each argument reads behind the call as it read before'; 0 by the template 'total and deterministic' (their statements: YbulkoboTotals.lean).
  GIVEN WITH THE SEED: the statements are not yours to turn. If you find one false, say at which input.
  Laid BY PROGRAM, IN A SANDBOX (cutbox-rows.mjs): the forced cells as the released guide's own fill.sh prints them over the translation 3352fbc2b80eb799… (all of the seat's roots in one cut). By AI agents, Wed Nov 11 2026. No macro, syntax, notation, axiom, sorry.
-/
import Derived.Test.YbulkoboChecked
import GoSem.Claim
import GoSem.ClaimJoined
import GoSem.ClaimMapViews
import Derived.JoinedTies
import Derived.KernelRfl
namespace Go.Proofs.Ybulkobo
/- THE CELL 'sum', in the pinned program and in every row, IS THE sha256 OF THE DUMP (.gsa) THAT YbulkoboProg.lean LOADS. Nothing in Lean hashes anything: it is a label: what it is worth is what the hold of that sum in a sandbox is worth. -/
noncomputable def Yba.pinned : Pinned := { name := "ybulkobo", sum := "3352fbc2b80eb7995ebb57d01427a898b14ba6e127a187b8a7a472bbab723e03", checked := Yba.checked }
namespace Rows
def none {H : Type} : Left H := { results := [], args := [] }

/-- 'gost.LawS0729AStart': WHATEVER THE INPUT: true; the input reads as it did. -/
def lawS0729AStartSpec : ChangeSpec := { name := "lawS0729AStart", fn := fun _ => fun
  | [d1, d2] => { results := [.lit (.bool true)], args := [d1, d2] }
  | _ => none }
def lawS0729AStartRow : OpenClaim := { program := "ybulkobo", sum := "3352fbc2b80eb7995ebb57d01427a898b14ba6e127a187b8a7a472bbab723e03", func := "example.com/suitetrace/suitetrace/internal/gost.LawS0729AStart", spec := "lawS0729AStart", unfollowed := true, recurses := true, apart := false }
def LawS0729AStartSaid : Prop := lawS0729AStartRow.holds Yba.pinned (OpenSpec.ofChange lawS0729AStartSpec)

/-- ITS FALSE NEIGHBOUR: 'it returns false'. Refute it at one input. -/
def lawS0729AStartWrong : ChangeSpec := { name := "lawS0729AStart", fn := fun _ => fun
  | [d1, d2] => { results := [.lit (.bool false)], args := [d1, d2] }
  | _ => none }
def LawS0729AStartWrongFalsely : Prop := lawS0729AStartRow.holds Yba.pinned (OpenSpec.ofChange lawS0729AStartWrong)

end Rows
end Go.Proofs.Ybulkobo
