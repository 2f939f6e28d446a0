import Derived.Test.YbulkdicqRows
import Derived.WalkKit
import Derived.ProofKit
import Derived.OpenShut
import Derived.ShutString
import Derived.WalkLawsBesides
import Derived.Deep.QuietTactic
import Derived.BigQuiet
namespace Go.Proofs.Ybulkdicq.lawS5463AWhole
open Go.ChangeShapes Go.WideShapes Go.ChangeAt Go.RowKit
open Go.ChangeMaps (open_string shut_string)

theorem chan_nil (w : World) : (binOp .eql 38 (.chan none) (.chan none)).run Yba.prog w = .ok (.bool true) w := by kernel_rfl
theorem slice_nil (w : World) : (binOp .eql 31 (.slice none 0 0) (.slice none 0 0)).run Yba.prog w = .ok (.bool true) w := by kernel_rfl

/-- 'due' as the program's text reckons it. -/
def due (u wd : Int) (fin cl : Bool) : Bool := !fin && !cl && !(decide (u < wrap64 (wd.tdiv 2)))

set_option maxHeartbeats 400000 in
theorem owed_no (b : Nat) (u wd : Int) (fin cl : Bool) (hd : due u wd fin cl = false) (w : World)
    (h8 : w.cell? ⟨b, 8, none⟩ = some (.int .i64 u)) (h9 : w.cell? ⟨b, 9, none⟩ = some (.int .i64 wd)) (h17 : w.cell? ⟨b, 17, none⟩ = some (.bool fin)) (h20 : w.cell? ⟨b, 20, none⟩ = some (.bool cl)) :
    Calls Yba.prog 4 #[.pointer (some ⟨b, 0, none⟩)] w fun e w' => e = .returned (.int .i64 0) ∧ ∃ n, w' = w.drewN n := by
  cases hl : decide (u < wrap64 (wd.tdiv 2))
  · cases fin
    · cases cl
      · simp [due, hl] at hd
      · clear hd
        go_enter Yba.func4, Yba.ntmps4
        go_wp2
        go_quiet (fail)
        go_wp2
        go_ret
        exact ⟨rfl, _, rfl⟩
    · clear hd
      go_enter Yba.func4, Yba.ntmps4
      go_wp2
      go_quiet (fail)
      go_wp2
      go_ret
      exact ⟨rfl, _, rfl⟩
  · clear hd
    go_enter Yba.func4, Yba.ntmps4
    go_wp2
    go_quiet (fail)
    go_wp2
    go_ret
    exact ⟨rfl, _, rfl⟩

set_option maxHeartbeats 400000 in
theorem owed_yes (b : Nat) (u wd : Int) (hd : decide (u < wrap64 (wd.tdiv 2)) = false) (w : World)
    (h8 : w.cell? ⟨b, 8, none⟩ = some (.int .i64 u)) (h9 : w.cell? ⟨b, 9, none⟩ = some (.int .i64 wd)) (h17 : w.cell? ⟨b, 17, none⟩ = some (.bool false)) (h20 : w.cell? ⟨b, 20, none⟩ = some (.bool false))
    (hf : w.frozen? ⟨b, 8, none⟩ = false) :
    Calls Yba.prog 4 #[.pointer (some ⟨b, 0, none⟩)] w fun e w' => e = .returned (.int .i64 u) ∧ ∃ n, w' = (w.setCell ⟨b, 8, none⟩ (.int .i64 0)).drewN n := by
  go_enter Yba.func4, Yba.ntmps4
  go_wp2
  go_quiet (fail)
  go_wp2
  go_ret
  exact ⟨rfl, _, rfl⟩
end Go.Proofs.Ybulkdicq.lawS5463AWhole
