/-
  No cell of these rows narrows 'for every input' (looked for: loops, veiled, ifaces, maps, wideKeys, modest, calm, conditions, laid).
  DERIVED. THE GIVEN ROWS OF THIS SEAT. 2 by the template 'for every input the law returns true; each argument reads behind the call as it read before'; 0 by the template 'total and deterministic' (their statements: YbulkdieuTotals.lean).
  GIVEN WITH THE SEED: the statements are not yours to turn. If you find one false, say at which input.
  Laid BY PROGRAM, IN A SANDBOX (cutbox-rows.mjs): the forced cells as the released guide's own fill.sh prints them over the translation 10a83b8fca5b3e44… (all of the seat's roots in one cut). By AI agents, Wed Nov 11 2026. No macro, syntax, notation, axiom, sorry.
-/
import Derived.Test.YbulkdieuChecked
import GoSem.Claim
import GoSem.ClaimJoined
import GoSem.ClaimMapViews
import Derived.JoinedTies
import Derived.KernelRfl
namespace Go.Proofs.Ybulkdieu
/- THE CELL 'sum', in the pinned program and in every row, IS THE sha256 OF THE DUMP (.gsa) THAT YbulkdieuProg.lean LOADS. Nothing in Lean hashes anything: it is a label: what it is worth is what the hold of that sum in a sandbox is worth. -/
noncomputable def Yba.pinned : Pinned := { name := "ybulkdieu", sum := "10a83b8fca5b3e44ea33fdb3634a20975da37485e22a0e2517a0275fca394816", checked := Yba.checked }
namespace Rows
def none {H : Type} : Left H := { results := [], args := [] }

/-- 'shallot.LawS5467CWhole': WHATEVER THE INPUT: true; the input reads as it did. -/
def lawS5467CWholeSpec : ChangeSpec := { name := "lawS5467CWhole", fn := fun _ => fun
  | [] => { results := [.lit (.bool true)], args := [] }
  | _ => none }
def lawS5467CWholeRow : OpenClaim := { program := "ybulkdieu", sum := "10a83b8fca5b3e44ea33fdb3634a20975da37485e22a0e2517a0275fca394816", func := "example.com/shallot/shallot.LawS5467CWhole", spec := "lawS5467CWhole", apart := false }
def LawS5467CWholeSaid : Prop := lawS5467CWholeRow.holds Yba.pinned (OpenSpec.ofChange lawS5467CWholeSpec)

/-- ITS FALSE NEIGHBOUR: 'it returns false'. Refute it at one input. -/
def lawS5467CWholeWrong : ChangeSpec := { name := "lawS5467CWhole", fn := fun _ => fun
  | [] => { results := [.lit (.bool false)], args := [] }
  | _ => none }
def LawS5467CWholeWrongFalsely : Prop := lawS5467CWholeRow.holds Yba.pinned (OpenSpec.ofChange lawS5467CWholeWrong)

/-- 'shallot.LawS5467CFresh': WHATEVER THE INPUT: true; the input reads as it did. -/
def lawS5467CFreshSpec : ChangeSpec := { name := "lawS5467CFresh", fn := fun _ => fun
  | [] => { results := [.lit (.bool true)], args := [] }
  | _ => none }
def lawS5467CFreshRow : OpenClaim := { program := "ybulkdieu", sum := "10a83b8fca5b3e44ea33fdb3634a20975da37485e22a0e2517a0275fca394816", func := "example.com/shallot/shallot.LawS5467CFresh", spec := "lawS5467CFresh", apart := false }
def LawS5467CFreshSaid : Prop := lawS5467CFreshRow.holds Yba.pinned (OpenSpec.ofChange lawS5467CFreshSpec)

/-- ITS FALSE NEIGHBOUR: 'it returns false'. Refute it at one input. -/
def lawS5467CFreshWrong : ChangeSpec := { name := "lawS5467CFresh", fn := fun _ => fun
  | [] => { results := [.lit (.bool false)], args := [] }
  | _ => none }
def LawS5467CFreshWrongFalsely : Prop := lawS5467CFreshRow.holds Yba.pinned (OpenSpec.ofChange lawS5467CFreshWrong)

end Rows
end Go.Proofs.Ybulkdieu
