/-
  No cell of these rows narrows 'for every input' (looked for: loops, veiled, ifaces, maps, wideKeys, modest, calm, conditions, laid).
  DERIVED. THE GIVEN ROWS OF THIS SEAT. 1 by the template 'for every input the law returns true; each argument reads behind the call as it read before'; 0 by the template 'total and deterministic' (their statements: YbulkdpyeTotals.lean).
  GIVEN WITH THE SEED: the statements are not yours to turn. If you find one false, say at which input.
  Laid BY PROGRAM, IN A SANDBOX (cutbox-rows.mjs): the forced cells as the released guide's own fill.sh prints them over the translation 8a621a344df4b838… (all of the seat's roots in one cut). By AI agents, Wed Nov 11 2026. No macro, syntax, notation, axiom, sorry.
-/
import Derived.Test.YbulkdpyeChecked
import GoSem.Claim
import GoSem.ClaimJoined
import GoSem.ClaimMapViews
import Derived.JoinedTies
import Derived.KernelRfl
namespace Go.Proofs.Ybulkdpye
/- THE CELL 'sum', in the pinned program and in every row, IS THE sha256 OF THE DUMP (.gsa) THAT YbulkdpyeProg.lean LOADS. Nothing in Lean hashes anything: it is a label: what it is worth is what the hold of that sum in a sandbox is worth. -/
noncomputable def Yba.pinned : Pinned := { name := "ybulkdpye", sum := "8a621a344df4b8380875bee33f944762582e338ff2ce7fdebe28206ffe49a19b", checked := Yba.checked }
namespace Rows
def none {H : Type} : Left H := { results := [], args := [] }

/-- 'accrue.LawS5841BWhole': WHATEVER THE INPUT: true; the input reads as it did. -/
def lawS5841BWholeSpec : ChangeSpec := { name := "lawS5841BWhole", fn := fun _ => fun
  | [d1, d2] => { results := [.lit (.bool true)], args := [d1, d2] }
  | _ => none }
def lawS5841BWholeRow : OpenClaim := { program := "ybulkdpye", sum := "8a621a344df4b8380875bee33f944762582e338ff2ce7fdebe28206ffe49a19b", func := "example.com/accrue/accrue.LawS5841BWhole", spec := "lawS5841BWhole", apart := false }
def LawS5841BWholeSaid : Prop := lawS5841BWholeRow.holds Yba.pinned (OpenSpec.ofChange lawS5841BWholeSpec)

/-- ITS FALSE NEIGHBOUR: 'it returns false'. Refute it at one input. -/
def lawS5841BWholeWrong : ChangeSpec := { name := "lawS5841BWhole", fn := fun _ => fun
  | [d1, d2] => { results := [.lit (.bool false)], args := [d1, d2] }
  | _ => none }
def LawS5841BWholeWrongFalsely : Prop := lawS5841BWholeRow.holds Yba.pinned (OpenSpec.ofChange lawS5841BWholeWrong)

end Rows
end Go.Proofs.Ybulkdpye
