/-
  No cell of these rows narrows 'for every input' (looked for: loops, veiled, ifaces, maps, wideKeys, modest, calm, conditions, laid).
  DERIVED. THE GIVEN ROWS OF THIS SEAT. 2 by the template 'for every input the law returns true; each argument reads behind the call as it read before'; 0 by the template 'total and deterministic' (their statements: YbulkdqbyTotals.lean).
  GIVEN WITH THE SEED: the statements are not yours to turn. If you find one false, say at which input.
  Laid BY PROGRAM, IN A SANDBOX (cutbox-rows.mjs): the forced cells as the released guide's own fill.sh prints them over the translation 711e7e1b50dee1dc… (all of the seat's roots in one cut). By AI agents, Wed Nov 11 2026. No macro, syntax, notation, axiom, sorry.
-/
import Derived.Test.YbulkdqbyChecked
import GoSem.Claim
import GoSem.ClaimJoined
import GoSem.ClaimMapViews
import Derived.JoinedTies
import Derived.KernelRfl
namespace Go.Proofs.Ybulkdqby
/- THE CELL 'sum', in the pinned program and in every row, IS THE sha256 OF THE DUMP (.gsa) THAT YbulkdqbyProg.lean LOADS. Nothing in Lean hashes anything: it is a label: what it is worth is what the hold of that sum in a sandbox is worth. -/
noncomputable def Yba.pinned : Pinned := { name := "ybulkdqby", sum := "711e7e1b50dee1dc694e62e5ab7a95d70cf1c296b6a6e056958ac2dc01c6c6ee", checked := Yba.checked }
namespace Rows
def none {H : Type} : Left H := { results := [], args := [] }

/-- 'suspicion.LawS5848AWhole': WHATEVER THE INPUT: true; the input reads as it did. -/
def lawS5848AWholeSpec : ChangeSpec := { name := "lawS5848AWhole", fn := fun _ => fun
  | [d1, d2] => { results := [.lit (.bool true)], args := [d1, d2] }
  | _ => none }
def lawS5848AWholeRow : OpenClaim := { program := "ybulkdqby", sum := "711e7e1b50dee1dc694e62e5ab7a95d70cf1c296b6a6e056958ac2dc01c6c6ee", func := "example.com/suspicion/suspicion.LawS5848AWhole", spec := "lawS5848AWhole", apart := false }
def LawS5848AWholeSaid : Prop := lawS5848AWholeRow.holds Yba.pinned (OpenSpec.ofChange lawS5848AWholeSpec)

/-- ITS FALSE NEIGHBOUR: 'it returns false'. Refute it at one input. -/
def lawS5848AWholeWrong : ChangeSpec := { name := "lawS5848AWhole", fn := fun _ => fun
  | [d1, d2] => { results := [.lit (.bool false)], args := [d1, d2] }
  | _ => none }
def LawS5848AWholeWrongFalsely : Prop := lawS5848AWholeRow.holds Yba.pinned (OpenSpec.ofChange lawS5848AWholeWrong)

/-- 'suspicion.LawS5848CWhole': WHATEVER THE INPUT: true; the input reads as it did. -/
def lawS5848CWholeSpec : ChangeSpec := { name := "lawS5848CWhole", fn := fun _ => fun
  | [d1, d2, d3] => { results := [.lit (.bool true)], args := [d1, d2, d3] }
  | _ => none }
def lawS5848CWholeRow : OpenClaim := { program := "ybulkdqby", sum := "711e7e1b50dee1dc694e62e5ab7a95d70cf1c296b6a6e056958ac2dc01c6c6ee", func := "example.com/suspicion/suspicion.LawS5848CWhole", spec := "lawS5848CWhole", unfollowed := true, recurses := true, apart := false }
def LawS5848CWholeSaid : Prop := lawS5848CWholeRow.holds Yba.pinned (OpenSpec.ofChange lawS5848CWholeSpec)

/-- ITS FALSE NEIGHBOUR: 'it returns false'. Refute it at one input. -/
def lawS5848CWholeWrong : ChangeSpec := { name := "lawS5848CWhole", fn := fun _ => fun
  | [d1, d2, d3] => { results := [.lit (.bool false)], args := [d1, d2, d3] }
  | _ => none }
def LawS5848CWholeWrongFalsely : Prop := lawS5848CWholeRow.holds Yba.pinned (OpenSpec.ofChange lawS5848CWholeWrong)

end Rows
end Go.Proofs.Ybulkdqby
