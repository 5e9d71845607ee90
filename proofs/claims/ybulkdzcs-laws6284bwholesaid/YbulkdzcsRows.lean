/-
  No cell of these rows narrows 'for every input' (looked for: loops, veiled, ifaces, maps, wideKeys, modest, calm, conditions, laid).
  DERIVED. THE GIVEN ROWS OF THIS SEAT. 2 by the template 'for every input the law returns true; each argument reads behind the call as it read before'; 0 by the template 'total and deterministic' (their statements: YbulkdzcsTotals.lean).
  GIVEN WITH THE SEED: the statements are not yours to turn. If you find one false, say at which input.
  Laid BY PROGRAM, IN A SANDBOX (cutbox-rows.mjs): the forced cells as the released guide's own fill.sh prints them over the translation c7d9dacef5b7dc59… (all of the seat's roots in one cut). By AI agents, Wed Nov 11 2026. No macro, syntax, notation, axiom, sorry.
-/
import Derived.Test.YbulkdzcsChecked
import GoSem.Claim
import GoSem.ClaimJoined
import GoSem.ClaimMapViews
import Derived.JoinedTies
import Derived.KernelRfl
namespace Go.Proofs.Ybulkdzcs
/- THE CELL 'sum', in the pinned program and in every row, IS THE sha256 OF THE DUMP (.gsa) THAT YbulkdzcsProg.lean LOADS. Nothing in Lean hashes anything: it is a label: what it is worth is what the hold of that sum in a sandbox is worth. -/
noncomputable def Yba.pinned : Pinned := { name := "ybulkdzcs", sum := "c7d9dacef5b7dc59acee6ec30f88bd18866a635bf31e927924282ddde7ba4cfb", checked := Yba.checked }
namespace Rows
def none {H : Type} : Left H := { results := [], args := [] }

/-- 'linewright.LawS6284AWhole': WHATEVER THE INPUT: true; the input reads as it did. -/
def lawS6284AWholeSpec : ChangeSpec := { name := "lawS6284AWhole", fn := fun _ => fun
  | [d1, d2] => { results := [.lit (.bool true)], args := [d1, d2] }
  | _ => none }
def lawS6284AWholeRow : OpenClaim := { program := "ybulkdzcs", sum := "c7d9dacef5b7dc59acee6ec30f88bd18866a635bf31e927924282ddde7ba4cfb", func := "example.com/linewright/linewright.LawS6284AWhole", spec := "lawS6284AWhole", inPlace := ["internal/bytealg.Compare"], unfollowed := true, recurses := true, apart := false }
def LawS6284AWholeSaid : Prop := lawS6284AWholeRow.holds Yba.pinned (OpenSpec.ofChange lawS6284AWholeSpec)

/-- ITS FALSE NEIGHBOUR: 'it returns false'. Refute it at one input. -/
def lawS6284AWholeWrong : ChangeSpec := { name := "lawS6284AWhole", fn := fun _ => fun
  | [d1, d2] => { results := [.lit (.bool false)], args := [d1, d2] }
  | _ => none }
def LawS6284AWholeWrongFalsely : Prop := lawS6284AWholeRow.holds Yba.pinned (OpenSpec.ofChange lawS6284AWholeWrong)

/-- 'receiver.LawS6284BWhole': WHATEVER THE INPUT: true; the input reads as it did. -/
def lawS6284BWholeSpec : ChangeSpec := { name := "lawS6284BWhole", fn := fun _ => fun
  | [d1, d2, d3, d4] => { results := [.lit (.bool true)], args := [d1, d2, d3, d4] }
  | _ => none }
def lawS6284BWholeRow : OpenClaim := { program := "ybulkdzcs", sum := "c7d9dacef5b7dc59acee6ec30f88bd18866a635bf31e927924282ddde7ba4cfb", func := "example.com/linewright/linewright/internal/receiver.LawS6284BWhole", spec := "lawS6284BWhole", inPlace := ["internal/reflectlite.TypeOf"], unfollowed := true, recurses := true, apart := false }
def LawS6284BWholeSaid : Prop := lawS6284BWholeRow.holds Yba.pinned (OpenSpec.ofChange lawS6284BWholeSpec)

/-- ITS FALSE NEIGHBOUR: 'it returns false'. Refute it at one input. -/
def lawS6284BWholeWrong : ChangeSpec := { name := "lawS6284BWhole", fn := fun _ => fun
  | [d1, d2, d3, d4] => { results := [.lit (.bool false)], args := [d1, d2, d3, d4] }
  | _ => none }
def LawS6284BWholeWrongFalsely : Prop := lawS6284BWholeRow.holds Yba.pinned (OpenSpec.ofChange lawS6284BWholeWrong)

end Rows
end Go.Proofs.Ybulkdzcs
