/-
  No cell of these rows narrows 'for every input' (looked for: loops, veiled, ifaces, maps, wideKeys, modest, calm, conditions, laid).
  DERIVED. THE GIVEN ROWS OF THIS SEAT. 1 by the template 'for every input the law returns true; each argument reads behind the call as it read before'; 0 by the template 'total and deterministic' (their statements: YbulkdicqTotals.lean).
  GIVEN WITH THE SEED: the statements are not yours to turn. If you find one false, say at which input.
  Laid BY PROGRAM, IN A SANDBOX (cutbox-rows.mjs): the forced cells as the released guide's own fill.sh prints them over the translation eef5b14bf7eaa802… (all of the seat's roots in one cut). By AI agents, Wed Nov 11 2026. No macro, syntax, notation, axiom, sorry.
-/
import Derived.Test.YbulkdicqChecked
import GoSem.Claim
import GoSem.ClaimJoined
import GoSem.ClaimMapViews
import Derived.JoinedTies
import Derived.KernelRfl
namespace Go.Proofs.Ybulkdicq
/- THE CELL 'sum', in the pinned program and in every row, IS THE sha256 OF THE DUMP (.gsa) THAT YbulkdicqProg.lean LOADS. Nothing in Lean hashes anything: it is a label: what it is worth is what the hold of that sum in a sandbox is worth. -/
noncomputable def Yba.pinned : Pinned := { name := "ybulkdicq", sum := "eef5b14bf7eaa802297a6609c8436abb292651fb9195ff0ee7ef5036860bc277", checked := Yba.checked }
namespace Rows
def none {H : Type} : Left H := { results := [], args := [] }

/-- 'mux.LawS5463AWhole': WHATEVER THE INPUT: true; the input reads as it did. -/
def lawS5463AWholeSpec : ChangeSpec := { name := "lawS5463AWhole", fn := fun _ => fun
  | [d1, d2, d3, d4, d5, d6, d7, d8, d9, d10] => { results := [.lit (.bool true)], args := [d1, d2, d3, d4, d5, d6, d7, d8, d9, d10] }
  | _ => none }
def lawS5463AWholeRow : OpenClaim := { program := "ybulkdicq", sum := "eef5b14bf7eaa802297a6609c8436abb292651fb9195ff0ee7ef5036860bc277", func := "example.com/culvert/culvert/pkg/mux.LawS5463AWhole", spec := "lawS5463AWhole", apart := false }
def LawS5463AWholeSaid : Prop := lawS5463AWholeRow.holds Yba.pinned (OpenSpec.ofChange lawS5463AWholeSpec)

/-- ITS FALSE NEIGHBOUR: 'it returns false'. Refute it at one input. -/
def lawS5463AWholeWrong : ChangeSpec := { name := "lawS5463AWhole", fn := fun _ => fun
  | [d1, d2, d3, d4, d5, d6, d7, d8, d9, d10] => { results := [.lit (.bool false)], args := [d1, d2, d3, d4, d5, d6, d7, d8, d9, d10] }
  | _ => none }
def LawS5463AWholeWrongFalsely : Prop := lawS5463AWholeRow.holds Yba.pinned (OpenSpec.ofChange lawS5463AWholeWrong)

end Rows
end Go.Proofs.Ybulkdicq
