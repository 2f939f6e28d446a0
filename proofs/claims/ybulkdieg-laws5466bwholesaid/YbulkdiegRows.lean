/-
  No cell of these rows narrows 'for every input' (looked for: loops, veiled, ifaces, maps, wideKeys, modest, calm, conditions, laid).
  DERIVED. THE GIVEN ROWS OF THIS SEAT. 1 by the template 'for every input the law returns true; each argument reads behind the call as it read before'; 0 by the template 'total and deterministic' (their statements: YbulkdiegTotals.lean).
  GIVEN WITH THE SEED: the statements are not yours to turn. If you find one false, say at which input.
  Laid BY PROGRAM, IN A SANDBOX (cutbox-rows.mjs): the forced cells as the released guide's own fill.sh prints them over the translation 08cd3fa179c54d52… (all of the seat's roots in one cut). By AI agents, Wed Nov 11 2026. No macro, syntax, notation, axiom, sorry.
-/
import Derived.Test.YbulkdiegChecked
import GoSem.Claim
import GoSem.ClaimJoined
import GoSem.ClaimMapViews
import Derived.JoinedTies
import Derived.KernelRfl
namespace Go.Proofs.Ybulkdieg
/- THE CELL 'sum', in the pinned program and in every row, IS THE sha256 OF THE DUMP (.gsa) THAT YbulkdiegProg.lean LOADS. Nothing in Lean hashes anything: it is a label: what it is worth is what the hold of that sum in a sandbox is worth. -/
noncomputable def Yba.pinned : Pinned := { name := "ybulkdieg", sum := "08cd3fa179c54d522f762c480fb6e7cd9999817f1b3dea4425513711baa6ef17", checked := Yba.checked }
namespace Rows
def none {H : Type} : Left H := { results := [], args := [] }

/-- 'murray-hill.LawS5466BWhole': WHATEVER THE INPUT: true; the input reads as it did. -/
def lawS5466BWholeSpec : ChangeSpec := { name := "lawS5466BWhole", fn := fun _ => fun
  | [d1, d2, d3] => { results := [.lit (.bool true)], args := [d1, d2, d3] }
  | _ => none }
def lawS5466BWholeRow : OpenClaim := { program := "ybulkdieg", sum := "08cd3fa179c54d522f762c480fb6e7cd9999817f1b3dea4425513711baa6ef17", func := "example.com/murray-hill/murray-hill.LawS5466BWhole", spec := "lawS5466BWhole", inPlace := ["sync/atomic.StoreInt32", "sync/atomic.LoadInt32", "sync/atomic.CompareAndSwapInt32"], apart := false }
def LawS5466BWholeSaid : Prop := lawS5466BWholeRow.holds Yba.pinned (OpenSpec.ofChange lawS5466BWholeSpec)

/-- ITS FALSE NEIGHBOUR: 'it returns false'. Refute it at one input. -/
def lawS5466BWholeWrong : ChangeSpec := { name := "lawS5466BWhole", fn := fun _ => fun
  | [d1, d2, d3] => { results := [.lit (.bool false)], args := [d1, d2, d3] }
  | _ => none }
def LawS5466BWholeWrongFalsely : Prop := lawS5466BWholeRow.holds Yba.pinned (OpenSpec.ofChange lawS5466BWholeWrong)

end Rows
end Go.Proofs.Ybulkdieg
