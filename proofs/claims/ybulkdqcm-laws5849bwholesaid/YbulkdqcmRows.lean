/-
  No cell of these rows narrows 'for every input' (looked for: loops, veiled, ifaces, maps, wideKeys, modest, calm, conditions, laid).
  DERIVED. THE GIVEN ROWS OF THIS SEAT. 1 by the template 'for every input the law returns true; each argument reads behind the call as it read before'; 0 by the template 'total and deterministic' (their statements: YbulkdqcmTotals.lean).
  GIVEN WITH THE SEED: the statements are not yours to turn. If you find one false, say at which input.
  Laid BY PROGRAM, IN A SANDBOX (cutbox-rows.mjs): the forced cells as the released guide's own fill.sh prints them over the translation 08a57672336d2607… (all of the seat's roots in one cut). By AI agents, Wed Nov 11 2026. No macro, syntax, notation, axiom, sorry.
-/
import Derived.Test.YbulkdqcmChecked
import GoSem.Claim
import GoSem.ClaimJoined
import GoSem.ClaimMapViews
import Derived.JoinedTies
import Derived.KernelRfl
namespace Go.Proofs.Ybulkdqcm
/- THE CELL 'sum', in the pinned program and in every row, IS THE sha256 OF THE DUMP (.gsa) THAT YbulkdqcmProg.lean LOADS. Nothing in Lean hashes anything: it is a label: what it is worth is what the hold of that sum in a sandbox is worth. -/
noncomputable def Yba.pinned : Pinned := { name := "ybulkdqcm", sum := "08a57672336d2607ffa887eb55c34f35344ec82d17fba04baaf5ca2ba9606dc1", checked := Yba.checked }
namespace Rows
def none {H : Type} : Left H := { results := [], args := [] }

/-- 'minify.LawS5849BWhole': WHATEVER THE INPUT: true; the input reads as it did. -/
def lawS5849BWholeSpec : ChangeSpec := { name := "lawS5849BWhole", fn := fun _ => fun
  | [d1, d2, d3] => { results := [.lit (.bool true)], args := [d1, d2, d3] }
  | _ => none }
def lawS5849BWholeRow : OpenClaim := { program := "ybulkdqcm", sum := "08a57672336d2607ffa887eb55c34f35344ec82d17fba04baaf5ca2ba9606dc1", func := "example.com/ravelex/ravelex/minify.LawS5849BWhole", spec := "lawS5849BWhole", apart := false }
def LawS5849BWholeSaid : Prop := lawS5849BWholeRow.holds Yba.pinned (OpenSpec.ofChange lawS5849BWholeSpec)

/-- ITS FALSE NEIGHBOUR: 'it returns false'. Refute it at one input. -/
def lawS5849BWholeWrong : ChangeSpec := { name := "lawS5849BWhole", fn := fun _ => fun
  | [d1, d2, d3] => { results := [.lit (.bool false)], args := [d1, d2, d3] }
  | _ => none }
def LawS5849BWholeWrongFalsely : Prop := lawS5849BWholeRow.holds Yba.pinned (OpenSpec.ofChange lawS5849BWholeWrong)

end Rows
end Go.Proofs.Ybulkdqcm
