import Derived.Test.YbulkdicqOwed
namespace Go.Proofs.Ybulkdicq.lawS5463AWhole
open Go.ChangeShapes Go.WideShapes Go.ChangeAt Go.RowKit

set_option maxRecDepth 100000 in
set_option maxHeartbeats 4000000 in
theorem walk_shut (a0 a1 a2 a3 a4 : Int) (a7 a8 a9 : Bool) (w : World) :
    Calls Yba.prog 3 #[.int .i64 a0, .int .i64 a1, .int .i64 a2, .int .i64 a3, .int .i64 a4, .bool false, .bool true, .bool a7, .bool a8, .bool a9] w fun e w' => e = .returned (.bool true) ∧ Grown w w' := by
  have hq : due a0 a1 false true = false := by simp [due]
  have hc := chan_nil
  have hs := slice_nil
  go_enter Yba.func3, Yba.ntmps3
  go_wp2_with fail
  refine (owed_no _ a0 a1 false true hq _ ?_ ?_ ?_ ?_).mono ?_
  · simp
  · simp
  · simp
  · simp
  rintro e w' ⟨rfl, n, rfl⟩
  go_wp2
  go_ret
  exact ⟨rfl, by repeat (first | exact Grown.refl _ | apply Grown.drewN | apply Grown.drew | apply Grown.alloc)⟩
end Go.Proofs.Ybulkdicq.lawS5463AWhole
