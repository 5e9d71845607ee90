/-
  No cell of these rows narrows 'for every input' (looked for: loops, veiled, ifaces, maps, wideKeys, modest, calm, conditions, laid).
  DERIVED. THE GIVEN ROWS OF THIS SEAT. 1 by the template 'for every input the law returns true; each argument reads behind the call as it read before'; 0 by the template 'total and deterministic' (their statements: YbulkdzdgTotals.lean).
  GIVEN WITH THE SEED: the statements are not yours to turn. If you find one false, say at which input.
  Laid BY PROGRAM, IN A SANDBOX (cutbox-rows.mjs): the forced cells as the released guide's own fill.sh prints them over the translation 9f744d5dacdfa4bb… (all of the seat's roots in one cut). By AI agents, Wed Nov 11 2026. No macro, syntax, notation, axiom, sorry.
-/
import Derived.Test.YbulkdzdgChecked
import GoSem.Claim
import GoSem.ClaimJoined
import GoSem.ClaimMapViews
import Derived.JoinedTies
import Derived.KernelRfl
namespace Go.Proofs.Ybulkdzdg
/- THE CELL 'sum', in the pinned program and in every row, IS THE sha256 OF THE DUMP (.gsa) THAT YbulkdzdgProg.lean LOADS. Nothing in Lean hashes anything: it is a label: what it is worth is what the hold of that sum in a sandbox is worth. -/
noncomputable def Yba.pinned : Pinned := { name := "ybulkdzdg", sum := "9f744d5dacdfa4bb30275937378befb4bbabb7621a48d08207bc207324f623ba", checked := Yba.checked }
namespace Rows
def none {H : Type} : Left H := { results := [], args := [] }

/-- 'node.LawS6285BWhole': WHATEVER THE INPUT: true; the input reads as it did. -/
def lawS6285BWholeSpec : ChangeSpec := { name := "lawS6285BWhole", fn := fun _ => fun
  | [d1, d2, d3, d4, d5] => { results := [.lit (.bool true)], args := [d1, d2, d3, d4, d5] }
  | _ => none }
def lawS6285BWholeRow : OpenClaim := { program := "ybulkdzdg", sum := "9f744d5dacdfa4bb30275937378befb4bbabb7621a48d08207bc207324f623ba", func := "example.com/minquorum/minquorum/internal/node.LawS6285BWhole", spec := "lawS6285BWhole", apart := false }
def LawS6285BWholeSaid : Prop := lawS6285BWholeRow.holds Yba.pinned (OpenSpec.ofChange lawS6285BWholeSpec)

/-- ITS FALSE NEIGHBOUR: 'it returns false'. Refute it at one input. -/
def lawS6285BWholeWrong : ChangeSpec := { name := "lawS6285BWhole", fn := fun _ => fun
  | [d1, d2, d3, d4, d5] => { results := [.lit (.bool false)], args := [d1, d2, d3, d4, d5] }
  | _ => none }
def LawS6285BWholeWrongFalsely : Prop := lawS6285BWholeRow.holds Yba.pinned (OpenSpec.ofChange lawS6285BWholeWrong)

end Rows
end Go.Proofs.Ybulkdzdg
