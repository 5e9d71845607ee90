/-
  No cell of these rows narrows 'for every input' (looked for: loops, veiled, ifaces, maps, wideKeys, modest, calm, conditions, laid).
  DERIVED. THE GIVEN ROWS OF THIS SEAT. 2 by the template 'for every input the law returns true; each argument reads behind the call as it read before'; 0 by the template 'total and deterministic' (their statements: YbulkdzceTotals.lean).
  GIVEN WITH THE SEED: the statements are not yours to turn. If you find one false, say at which input.
  Laid BY PROGRAM, IN A SANDBOX (cutbox-rows.mjs): the forced cells as the released guide's own fill.sh prints them over the translation bfe2b9ec70e60b8e… (all of the seat's roots in one cut). By AI agents, Wed Nov 11 2026. No macro, syntax, notation, axiom, sorry.
-/
import Derived.Test.YbulkdzceChecked
import GoSem.Claim
import GoSem.ClaimJoined
import GoSem.ClaimMapViews
import Derived.JoinedTies
import Derived.KernelRfl
namespace Go.Proofs.Ybulkdzce
/- THE CELL 'sum', in the pinned program and in every row, IS THE sha256 OF THE DUMP (.gsa) THAT YbulkdzceProg.lean LOADS. Nothing in Lean hashes anything: it is a label: what it is worth is what the hold of that sum in a sandbox is worth. -/
noncomputable def Yba.pinned : Pinned := { name := "ybulkdzce", sum := "bfe2b9ec70e60b8e88b00ecc9d05fceb9a72a521420b3ce61d4f8b4f1c378c36", checked := Yba.checked }
namespace Rows
def none {H : Type} : Left H := { results := [], args := [] }

/-- 'engine.LawS6283AWhole': WHATEVER THE INPUT: true; the input reads as it did. -/
def lawS6283AWholeSpec : ChangeSpec := { name := "lawS6283AWhole", fn := fun _ => fun
  | [d1, d2, d3, d4] => { results := [.lit (.bool true)], args := [d1, d2, d3, d4] }
  | _ => none }
def lawS6283AWholeRow : OpenClaim := { program := "ybulkdzce", sum := "bfe2b9ec70e60b8e88b00ecc9d05fceb9a72a521420b3ce61d4f8b4f1c378c36", func := "renlog.example/renlog/internal/engine.LawS6283AWhole", spec := "lawS6283AWhole", plainKeys := false, apart := false }
def LawS6283AWholeSaid : Prop := lawS6283AWholeRow.holds Yba.pinned (OpenSpec.ofChange lawS6283AWholeSpec)

/-- ITS FALSE NEIGHBOUR: 'it returns false'. Refute it at one input. -/
def lawS6283AWholeWrong : ChangeSpec := { name := "lawS6283AWhole", fn := fun _ => fun
  | [d1, d2, d3, d4] => { results := [.lit (.bool false)], args := [d1, d2, d3, d4] }
  | _ => none }
def LawS6283AWholeWrongFalsely : Prop := lawS6283AWholeRow.holds Yba.pinned (OpenSpec.ofChange lawS6283AWholeWrong)

/-- 'engine.LawS6283CPart': WHATEVER THE INPUT: true; the input reads as it did. -/
def lawS6283CPartSpec : ChangeSpec := { name := "lawS6283CPart", fn := fun _ => fun
  | [d1, d2, d3, d4, d5, d6, d7, d8, d9] => { results := [.lit (.bool true)], args := [d1, d2, d3, d4, d5, d6, d7, d8, d9] }
  | _ => none }
def lawS6283CPartRow : OpenClaim := { program := "ybulkdzce", sum := "bfe2b9ec70e60b8e88b00ecc9d05fceb9a72a521420b3ce61d4f8b4f1c378c36", func := "renlog.example/renlog/internal/engine.LawS6283CPart", spec := "lawS6283CPart", unfollowed := true, recurses := true, plainKeys := false, apart := false }
def LawS6283CPartSaid : Prop := lawS6283CPartRow.holds Yba.pinned (OpenSpec.ofChange lawS6283CPartSpec)

/-- ITS FALSE NEIGHBOUR: 'it returns false'. Refute it at one input. -/
def lawS6283CPartWrong : ChangeSpec := { name := "lawS6283CPart", fn := fun _ => fun
  | [d1, d2, d3, d4, d5, d6, d7, d8, d9] => { results := [.lit (.bool false)], args := [d1, d2, d3, d4, d5, d6, d7, d8, d9] }
  | _ => none }
def LawS6283CPartWrongFalsely : Prop := lawS6283CPartRow.holds Yba.pinned (OpenSpec.ofChange lawS6283CPartWrong)

end Rows
end Go.Proofs.Ybulkdzce
