/-
  No cell of these rows narrows 'for every input' (looked for: loops, veiled, ifaces, maps, wideKeys, modest, calm, conditions, laid).
  DERIVED. THE GIVEN ROWS OF THIS SEAT. 1 by the template 'for every input the law returns true; each argument reads behind the call as it read before'; 0 by the template 'total and deterministic' (their statements: YbulkdieuFmtTotals.lean).
  GIVEN WITH THE SEED: the statements are not yours to turn. If you find one false, say at which input.
  Laid BY PROGRAM, IN A SANDBOX (cutbox-rows.mjs): the forced cells as the released guide's own fill.sh prints them over the translation 143daef5050486fd… (all of the seat's roots in one cut). By AI agents, Wed Nov 11 2026. No macro, syntax, notation, axiom, sorry.
-/
import Derived.Test.YbulkdieuFmtChecked
import GoSem.Claim
import GoSem.ClaimJoined
import GoSem.ClaimMapViews
import Derived.JoinedTies
import Derived.KernelRfl
namespace Go.Proofs.YbulkdieuFmt
/- THE CELL 'sum', in the pinned program and in every row, IS THE sha256 OF THE DUMP (.gsa) THAT YbulkdieuFmtProg.lean LOADS. Nothing in Lean hashes anything: it is a label: what it is worth is what the hold of that sum in a sandbox is worth. -/
noncomputable def Ybaf.pinned : Pinned := { name := "ybulkdieufmt", sum := "143daef5050486fde44993e00c3f218026dcc9f17800e51e03d0d752aeb29918", checked := Ybaf.checked }
namespace Rows
def none {H : Type} : Left H := { results := [], args := [] }

/-- 'errorpage.LawS5467APart': WHATEVER THE INPUT: true; the input reads as it did. -/
def lawS5467APartSpec : ChangeSpec := { name := "lawS5467APart", fn := fun _ => fun
  | [d1, d2, d3, d4] => { results := [.lit (.bool true)], args := [d1, d2, d3, d4] }
  | _ => none }
def lawS5467APartRow : OpenClaim := { program := "ybulkdieufmt", sum := "143daef5050486fde44993e00c3f218026dcc9f17800e51e03d0d752aeb29918", func := "example.com/shallot/shallot/errorpage.LawS5467APart", spec := "lawS5467APart", stops := ["fmt.Sprintf"], inPlace := ["fmt.Sprintf"], apart := false }
/-- NO THEOREM (fmt's text is open here; it may be false): for the released tool's asking of the row's closed facts alone. THE STATEMENT IS 'LawS5467APartToldSaid' (YbulkdieuFmtCards.lean). -/
def LawS5467APartFormAsk : Prop := lawS5467APartRow.holds Ybaf.pinned (OpenSpec.ofChange lawS5467APartSpec)

/-- ITS FALSE NEIGHBOUR: 'it returns false'. Refute it at one input. -/
def lawS5467APartWrong : ChangeSpec := { name := "lawS5467APart", fn := fun _ => fun
  | [d1, d2, d3, d4] => { results := [.lit (.bool false)], args := [d1, d2, d3, d4] }
  | _ => none }
def LawS5467APartWrongFormAsk : Prop := lawS5467APartRow.holds Ybaf.pinned (OpenSpec.ofChange lawS5467APartWrong)

end Rows
end Go.Proofs.YbulkdieuFmt
