/-
  No cell of these rows narrows 'for every input' (looked for: loops, veiled, ifaces, maps, wideKeys, modest, calm, conditions, laid).
  DERIVED. THE GIVEN ROWS OF THIS SEAT. 2 by the template 'for every input the law returns true; each argument reads behind the call as it read before'; 0 by the template 'total and deterministic' (their statements: YbulkodsTotals.lean).
  GIVEN WITH THE SEED: the statements are not yours to turn. If you find one false, say at which input.
  Laid BY PROGRAM, IN A SANDBOX (cutbox-rows.mjs): the forced cells as the released guide's own fill.sh prints them over the translation bc453a6cf1538a79… (all of the seat's roots in one cut). By AI agents, Wed Nov 11 2026. No macro, syntax, notation, axiom, sorry.
-/
import Derived.Test.YbulkodsChecked
import GoSem.Claim
import GoSem.ClaimJoined
import GoSem.ClaimMapViews
import Derived.JoinedTies
import Derived.KernelRfl
namespace Go.Proofs.Ybulkods
/- THE CELL 'sum', in the pinned program and in every row, IS THE sha256 OF THE DUMP (.gsa) THAT YbulkodsProg.lean LOADS. Nothing in Lean hashes anything: it is a label: what it is worth is what the hold of that sum in a sandbox is worth. -/
noncomputable def Yba.pinned : Pinned := { name := "ybulkods", sum := "bc453a6cf1538a79fdc92a15fe3a16c3486fe3f32ceec75a68fdc3713b52779d", checked := Yba.checked }
namespace Rows
def none {H : Type} : Left H := { results := [], args := [] }

/-- 'peer.LawS0733BModel': WHATEVER THE INPUT: true; the input reads as it did. -/
def lawS0733BModelSpec : ChangeSpec := { name := "lawS0733BModel", fn := fun _ => fun
  | [d1, d2, d3, d4, d5, d6, d7, d8, d9, d10] => { results := [.lit (.bool true)], args := [d1, d2, d3, d4, d5, d6, d7, d8, d9, d10] }
  | _ => none }
def lawS0733BModelRow : OpenClaim := { program := "ybulkods", sum := "bc453a6cf1538a79fdc92a15fe3a16c3486fe3f32ceec75a68fdc3713b52779d", func := "example.com/fountainswarm/fountainswarm/peer.LawS0733BModel", spec := "lawS0733BModel", unfollowed := true, recurses := true, apart := false }
def LawS0733BModelSaid : Prop := lawS0733BModelRow.holds Yba.pinned (OpenSpec.ofChange lawS0733BModelSpec)

/-- ITS FALSE NEIGHBOUR: 'it returns false'. Refute it at one input. -/
def lawS0733BModelWrong : ChangeSpec := { name := "lawS0733BModel", fn := fun _ => fun
  | [d1, d2, d3, d4, d5, d6, d7, d8, d9, d10] => { results := [.lit (.bool false)], args := [d1, d2, d3, d4, d5, d6, d7, d8, d9, d10] }
  | _ => none }
def LawS0733BModelWrongFalsely : Prop := lawS0733BModelRow.holds Yba.pinned (OpenSpec.ofChange lawS0733BModelWrong)

/-- 'peer.LawS0733BCalls': WHATEVER THE INPUT: true; the input reads as it did. -/
def lawS0733BCallsSpec : ChangeSpec := { name := "lawS0733BCalls", fn := fun _ => fun
  | [d1, d2, d3, d4, d5, d6, d7, d8, d9, d10] => { results := [.lit (.bool true)], args := [d1, d2, d3, d4, d5, d6, d7, d8, d9, d10] }
  | _ => none }
def lawS0733BCallsRow : OpenClaim := { program := "ybulkods", sum := "bc453a6cf1538a79fdc92a15fe3a16c3486fe3f32ceec75a68fdc3713b52779d", func := "example.com/fountainswarm/fountainswarm/peer.LawS0733BCalls", spec := "lawS0733BCalls", unfollowed := true, recurses := true, apart := false }
def LawS0733BCallsSaid : Prop := lawS0733BCallsRow.holds Yba.pinned (OpenSpec.ofChange lawS0733BCallsSpec)

/-- ITS FALSE NEIGHBOUR: 'it returns false'. Refute it at one input. -/
def lawS0733BCallsWrong : ChangeSpec := { name := "lawS0733BCalls", fn := fun _ => fun
  | [d1, d2, d3, d4, d5, d6, d7, d8, d9, d10] => { results := [.lit (.bool false)], args := [d1, d2, d3, d4, d5, d6, d7, d8, d9, d10] }
  | _ => none }
def LawS0733BCallsWrongFalsely : Prop := lawS0733BCallsRow.holds Yba.pinned (OpenSpec.ofChange lawS0733BCallsWrong)

end Rows
end Go.Proofs.Ybulkods
