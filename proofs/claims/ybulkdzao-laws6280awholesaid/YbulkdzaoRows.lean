/-
  No cell of these rows narrows 'for every input' (looked for: loops, veiled, ifaces, maps, wideKeys, modest, calm, conditions, laid).
  DERIVED. THE GIVEN ROWS OF THIS SEAT. 1 by the template 'for every input the law returns true; each argument reads behind the call as it read before'; 0 by the template 'total and deterministic' (their statements: YbulkdzaoTotals.lean).
  GIVEN WITH THE SEED: the statements are not yours to turn. If you find one false, say at which input.
  Laid BY PROGRAM, IN A SANDBOX (cutbox-rows.mjs): the forced cells as the released guide's own fill.sh prints them over the translation dc0bc596fa890ea7… (all of the seat's roots in one cut). By AI agents, Wed Nov 11 2026. No macro, syntax, notation, axiom, sorry.
-/
import Derived.Test.YbulkdzaoChecked
import GoSem.Claim
import GoSem.ClaimJoined
import GoSem.ClaimMapViews
import Derived.JoinedTies
import Derived.KernelRfl
namespace Go.Proofs.Ybulkdzao
/- THE CELL 'sum', in the pinned program and in every row, IS THE sha256 OF THE DUMP (.gsa) THAT YbulkdzaoProg.lean LOADS. Nothing in Lean hashes anything: it is a label: what it is worth is what the hold of that sum in a sandbox is worth. -/
noncomputable def Yba.pinned : Pinned := { name := "ybulkdzao", sum := "dc0bc596fa890ea71d59eb70b7a20c73de29bd3852a48609fc473172b2774761", checked := Yba.checked }
namespace Rows
def none {H : Type} : Left H := { results := [], args := [] }

/-- 'schema.LawS6280AWhole': WHATEVER THE INPUT: true; the input reads as it did. -/
def lawS6280AWholeSpec : ChangeSpec := { name := "lawS6280AWhole", fn := fun _ => fun
  | [d1, d2, d3, d4, d5, d6] => { results := [.lit (.bool true)], args := [d1, d2, d3, d4, d5, d6] }
  | _ => none }
def lawS6280AWholeRow : OpenClaim := { program := "ybulkdzao", sum := "dc0bc596fa890ea71d59eb70b7a20c73de29bd3852a48609fc473172b2774761", func := "example.com/keymerge/keymerge/internal/schema.LawS6280AWhole", spec := "lawS6280AWhole", apart := false }
def LawS6280AWholeSaid : Prop := lawS6280AWholeRow.holds Yba.pinned (OpenSpec.ofChange lawS6280AWholeSpec)

/-- ITS FALSE NEIGHBOUR: 'it returns false'. Refute it at one input. -/
def lawS6280AWholeWrong : ChangeSpec := { name := "lawS6280AWhole", fn := fun _ => fun
  | [d1, d2, d3, d4, d5, d6] => { results := [.lit (.bool false)], args := [d1, d2, d3, d4, d5, d6] }
  | _ => none }
def LawS6280AWholeWrongFalsely : Prop := lawS6280AWholeRow.holds Yba.pinned (OpenSpec.ofChange lawS6280AWholeWrong)

end Rows
end Go.Proofs.Ybulkdzao
