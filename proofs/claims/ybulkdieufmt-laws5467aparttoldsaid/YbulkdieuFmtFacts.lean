/-
  THE CLOSED FACTS FOR A WALK OVER fmt.Sprintf, STOPPED: after the guide's worked LabelFmt.lean, turned to this dump (function 7 is fmt.Sprintf; type 3 int, 9 string, 45 the variadic slice).
-/
import Derived.Test.YbulkdieuFmtCards
import Derived.Stop.CallBack
import Derived.Stop.IfaceNil
import GoSem.ClaimData
import Derived.WalkKit
import Derived.WalkSpells
import Derived.WalkLawsBesides
import Derived.Stop.FmtTextKit
import Derived.Stop.JoinedTold
import Derived.Stop.Texts
namespace Go.Proofs.YbulkdieuFmt
open Go.RowKit Go.Extern.Stop Go.Stop Go.Extern

theorem call7 (args : Array Value) (w : World) : (callFunc 7 args).run Ybaf.prog w = ((FmtStop.sprintf #[9, 45] #[9] args).run Ybaf.prog w).andThen fun v w' => .ok (.value v) w' :=
  run_callFunc_extern Ybaf.func7 (by kernel_rfl) (by kernel_rfl) (by kernel_rfl) (by kernel_rfl) args w
theorem guard (name : String) (w : World) : (FmtStop.guard name).run Ybaf.prog w = .ok () w := by kernel_rfl
theorem fmt0 : FmtStop.printed? ⟨#[37, 100, 32, 37, 115]⟩ 2 = some [(0, 100, false), (1, 115, false)] := by kernel_rfl
theorem fmt0r (w : World) : (FmtDoors.printed ⟨#[37, 100, 32, 37, 115]⟩ 2).run Ybaf.prog w = .ok [(0, 100, false), (1, 115, false)] w := by kernel_rfl
def shape3 : List UInt8 := [5, 3, 0, 0, 0, 0, 0, 0, 0, 105, 110, 116]
def shape9 : List UInt8 := [12, 6, 0, 0, 0, 0, 0, 0, 0, 115, 116, 114, 105, 110, 103]
theorem op3_100 (name : String) (x : Int) (w : World) : (FmtStop.operand name false 100 false (.iface 3 (.int .i64 x))).run Ybaf.prog w = .ok (shape3, Go.Extern.Stop.digits 8 (x % 2 ^ 64).toNat) w := by kernel_rfl
theorem op9_115 (name : String) (x : ByteArray) (w : World) : (FmtStop.operand name false 115 false (.iface 9 (.string x))).run Ybaf.prog w = .ok (shape9, FmtStop.pack x.data.toList) w := by kernel_rfl

/-- WHAT fmt IS ASKED: the format (a number, a blank, a string), the status, the message. -/
def reading (st : Int) (msg : List UInt8) : List (List UInt8) := [[37, 100, 32, 37, 115], shape3, digits 8 (st % 18446744073709551616).toNat, shape9, FmtStop.pack msg]

/-- WHAT IT WRITES. -/
def head (st : Int) (msg : List UInt8) : List UInt8 := Lib.itoa st ++ ([32] ++ msg)

theorem parse0 : (FmtText.parse [37, 100, 32, 37, 115]).map FmtText.glue = some [.verb {} 100, .lit [32], .verb {} 115] := by rfl

theorem text0 (st : Int) (msg : List UInt8) (hs : msg.length < 2 ^ 64) (hw : (Lit.int .i64 st).wf = true) : FmtText.text "fmt.Sprintf" (reading st msg) = some (head st msg) := by
  have hi := FmtText.operand_int_at (sh := shape3) (k := .i64) rfl rfl st hw
  have hn := FmtText.operand_str_at (sh := shape9) rfl rfl msg hs
  rw [reading, FmtText.text_sprintf_glued parse0 (FmtText.operands_cons hi (FmtText.operands_cons hn FmtText.operands_nil))]
  simp [FmtText.render, FmtText.printArg_d _ _ hw, FmtText.printArg_s_str, head]

theorem head_length (st : Int) (msg : List UInt8) (hw : (Lit.int .i64 st).wf = true) : (head st msg).length ≤ msg.length + 22 := by
  have := FmtText.itoa_length_le hw
  simp [head]; omega

/-- Told, the text is this. -/
theorem told0 (F : Interp) (st : Int) (msg : ByteArray) (hm : msg.size ≤ 1048576) (hw : (Lit.int .i64 st).wf = true) :
    FmtStop.textOf (F.told "fmt.Sprintf" (reading st msg.data.toList) 0) = ⟨(head st msg.data.toList).toArray⟩ := by
  have hl : msg.data.toList.length = msg.size := by rw [Array.length_toList]; rfl
  have hh := head_length st msg.data.toList hw
  have ht := told_string F (text0 st msg.data.toList (by omega) hw) (by omega)
  apply ByteArray.ext
  apply Array.ext'
  rw [Go.Kit.textOf_list, ht]
end Go.Proofs.YbulkdieuFmt
