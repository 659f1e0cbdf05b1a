/-
  No cell of these rows narrows 'for every input' (looked for: loops, veiled, ifaces, maps, wideKeys, modest, calm, conditions, laid).
  DERIVED. THE GIVEN ROWS OF THIS SEAT. 1 by the template 'for every input the law returns true; each argument reads behind the call as it read before'; 0 by the template 'total and deterministic' (their statements: YbulkdpzuTotals.lean).
  GIVEN WITH THE SEED: the statements are not yours to turn. If you find one false, say at which input.
  Laid BY PROGRAM, IN A SANDBOX (cutbox-rows.mjs): the forced cells as the released guide's own fill.sh prints them over the translation 24c914047dbf82cc… (all of the seat's roots in one cut). By AI agents, Wed Nov 11 2026. No macro, syntax, notation, axiom, sorry.
-/
import Derived.Test.YbulkdpzuChecked
import GoSem.Claim
import GoSem.ClaimJoined
import GoSem.ClaimMapViews
import Derived.JoinedTies
import Derived.KernelRfl
namespace Go.Proofs.Ybulkdpzu
/- THE CELL 'sum', in the pinned program and in every row, IS THE sha256 OF THE DUMP (.gsa) THAT YbulkdpzuProg.lean LOADS. Nothing in Lean hashes anything: it is a label: what it is worth is what the hold of that sum in a sandbox is worth. -/
noncomputable def Yba.pinned : Pinned := { name := "ybulkdpzu", sum := "24c914047dbf82cc3526de6ee12cb14f6768271a8d2a8814510f596cadfc28a9", checked := Yba.checked }
namespace Rows
def none {H : Type} : Left H := { results := [], args := [] }

/-- 'scopewell.LawS5844AWhole': WHATEVER THE INPUT: true; the input reads as it did. -/
def lawS5844AWholeSpec : ChangeSpec := { name := "lawS5844AWhole", fn := fun _ => fun
  | [d1, d2, d3] => { results := [.lit (.bool true)], args := [d1, d2, d3] }
  | _ => none }
def lawS5844AWholeRow : OpenClaim := { program := "ybulkdpzu", sum := "24c914047dbf82cc3526de6ee12cb14f6768271a8d2a8814510f596cadfc28a9", func := "example.com/scopewell/scopewell.LawS5844AWhole", spec := "lawS5844AWhole", apart := false }
def LawS5844AWholeSaid : Prop := lawS5844AWholeRow.holds Yba.pinned (OpenSpec.ofChange lawS5844AWholeSpec)

/-- ITS FALSE NEIGHBOUR: 'it returns false'. Refute it at one input. -/
def lawS5844AWholeWrong : ChangeSpec := { name := "lawS5844AWhole", fn := fun _ => fun
  | [d1, d2, d3] => { results := [.lit (.bool false)], args := [d1, d2, d3] }
  | _ => none }
def LawS5844AWholeWrongFalsely : Prop := lawS5844AWholeRow.holds Yba.pinned (OpenSpec.ofChange lawS5844AWholeWrong)

end Rows
end Go.Proofs.Ybulkdpzu
