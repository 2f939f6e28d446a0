/-
  No cell of these rows narrows 'for every input' (looked for: loops, veiled, ifaces, maps, wideKeys, modest, calm, conditions, laid).
  DERIVED. THE GIVEN ROWS OF THIS SEAT. 1 by the template 'for every input the law returns true; each argument reads behind the call as it read before'; 0 by the template 'total and deterministic' (their statements: YbulkdideTotals.lean).
  GIVEN WITH THE SEED: the statements are not yours to turn. If you find one false, say at which input.
  Laid BY PROGRAM, IN A SANDBOX (cutbox-rows.mjs): the forced cells as the released guide's own fill.sh prints them over the translation c1f724edfeb2f65c… (all of the seat's roots in one cut). By AI agents, Wed Nov 11 2026. No macro, syntax, notation, axiom, sorry.
-/
import Derived.Test.YbulkdideChecked
import GoSem.Claim
import GoSem.ClaimJoined
import GoSem.ClaimMapViews
import Derived.JoinedTies
import Derived.KernelRfl
namespace Go.Proofs.Ybulkdide
/- THE CELL 'sum', in the pinned program and in every row, IS THE sha256 OF THE DUMP (.gsa) THAT YbulkdideProg.lean LOADS. Nothing in Lean hashes anything: it is a label: what it is worth is what the hold of that sum in a sandbox is worth. -/
noncomputable def Yba.pinned : Pinned := { name := "ybulkdide", sum := "c1f724edfeb2f65cc591280d8dc1a046bba017b5e09804a1552024be87a3c401", checked := Yba.checked }
namespace Rows
def none {H : Type} : Left H := { results := [], args := [] }

/-- 'queue.LawS5464BWhole': WHATEVER THE INPUT: true; the input reads as it did. -/
def lawS5464BWholeSpec : ChangeSpec := { name := "lawS5464BWhole", fn := fun _ => fun
  | [d1, d2] => { results := [.lit (.bool true)], args := [d1, d2] }
  | _ => none }
def lawS5464BWholeRow : OpenClaim := { program := "ybulkdide", sum := "c1f724edfeb2f65cc591280d8dc1a046bba017b5e09804a1552024be87a3c401", func := "example.com/corral/corral/queue.LawS5464BWhole", spec := "lawS5464BWhole", apart := false }
def LawS5464BWholeSaid : Prop := lawS5464BWholeRow.holds Yba.pinned (OpenSpec.ofChange lawS5464BWholeSpec)

/-- ITS FALSE NEIGHBOUR: 'it returns false'. Refute it at one input. -/
def lawS5464BWholeWrong : ChangeSpec := { name := "lawS5464BWhole", fn := fun _ => fun
  | [d1, d2] => { results := [.lit (.bool false)], args := [d1, d2] }
  | _ => none }
def LawS5464BWholeWrongFalsely : Prop := lawS5464BWholeRow.holds Yba.pinned (OpenSpec.ofChange lawS5464BWholeWrong)

end Rows
end Go.Proofs.Ybulkdide
