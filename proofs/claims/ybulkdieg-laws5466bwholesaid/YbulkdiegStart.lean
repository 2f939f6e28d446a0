import Derived.Test.YbulkdiegRows
import Derived.WalkKit
import Derived.WalkLawsBesides
import Derived.Laws.LoneSync
import Derived.Laws.Pointers
import Derived.Deep.QuietTactic
import Derived.BigQuiet
namespace Go.Proofs.Ybulkdieg
open Go.RowKit


theorem store_any (b off : Nat) (y : Int) (u : Value) (w : World) (hc : w.cell? ⟨b, off, none⟩ = some u) (hz : w.frozen? ⟨b, off, none⟩ = false) :
    Calls Yba.prog 4 #[.pointer (some ⟨b, off, none⟩), .int .i32 y] w fun e w' => e = .returned (.tuple #[]) ∧ w' = w.setCell ⟨b, off, none⟩ (.int .i32 y) := by
  have hst := run_call_store (P := Yba.prog) Yba.func7 (by kernel_rfl) (by kernel_rfl) (by kernel_rfl) (by kernel_rfl) (k := .i32) (y := y) hc hz
  go_enter Yba.func4, Yba.ntmps4
  go_wp2
  go_end0
  exact ⟨rfl, rfl⟩

theorem load_any (b off : Nat) (x : Int) (w : World) (hc : w.cell? ⟨b, off, none⟩ = some (.int .i32 x)) :
    Calls Yba.prog 6 #[.pointer (some ⟨b, off, none⟩)] w fun e w' => e = .returned (.int .i32 x) ∧ w' = w := by
  have hl := run_call_load (P := Yba.prog) Yba.func9 (by kernel_rfl) (by kernel_rfl) (by kernel_rfl) .i32 (by kernel_rfl) hc
  go_enter Yba.func6, Yba.ntmps6
  go_wp2
  go_ret
  exact ⟨rfl, rfl⟩

theorem cas_hit (b off : Nat) (x y : Int) (w : World) (hc : w.cell? ⟨b, off, none⟩ = some (.int .i32 x)) (hz : w.frozen? ⟨b, off, none⟩ = false) :
    Calls Yba.prog 8 #[.pointer (some ⟨b, off, none⟩), .int .i32 x, .int .i32 y] w fun e w' => e = .returned (.bool true) ∧ w' = w.setCell ⟨b, off, none⟩ (.int .i32 y) := by
  have hcas := run_call_cas_hit (P := Yba.prog) Yba.func10 (by kernel_rfl) (by kernel_rfl) (by kernel_rfl) .i32 (by kernel_rfl) (y := y) hc hz
  go_enter Yba.func8, Yba.ntmps8
  go_wp2
  go_ret
  exact ⟨rfl, rfl⟩

set_option maxRecDepth 100000 in
set_option maxHeartbeats 400000 in
/-- It refuses. -/
theorem start_no (b p : Nat) (a : Option Addr) (idle s : Int) (hp : p ≤ 512) (hi1 : -1048576 ≤ idle) (hi2 : idle ≤ 1048576) (hs1 : -1048576 ≤ s) (hs2 : s ≤ 1048576) (w : World)
    (h0 : w.cell? ⟨b, 0, none⟩ = some (.slice a p p)) (h18 : w.cell? ⟨b, 18, none⟩ = some (.int .i32 idle)) (h19 : w.cell? ⟨b, 19, none⟩ = some (.int .i32 s))
    (c1 : 0 < s) (c2 : p - idle ≤ 2 * s) :
    Calls Yba.prog 5 #[.pointer (some ⟨b, 0, none⟩)] w fun e w' => e = .returned (.bool false) ∧ ∃ n, w' = w.drewN n := by
  go_enter Yba.func5, Yba.ntmps5
  go_wp2
  refine wp_loop_rounds 1 ?_
  rw [rounds_succ]
  go_wp2_with fail
  refine (load_any b 19 s _ h19).mono ?_
  rintro e w' ⟨rfl, rfl⟩
  go_wp2_with fail
  go_quiet ((go_at_call 6; exact Calls.quiet_of_same (load_any b 18 idle _ (by exact h18))))
  go_wp2_with fail
  go_wp2
  go_ret
  exact ⟨rfl, _, rfl⟩

set_option maxRecDepth 100000 in
set_option maxHeartbeats 400000 in
/-- None searches. -/
theorem start_none (b p : Nat) (a : Option Addr) (idle s : Int) (hp : p ≤ 512) (hi1 : -1048576 ≤ idle) (hi2 : idle ≤ 1048576) (hs1 : -1048576 ≤ s) (hs2 : s ≤ 1048576) (w : World)
    (h0 : w.cell? ⟨b, 0, none⟩ = some (.slice a p p)) (h18 : w.cell? ⟨b, 18, none⟩ = some (.int .i32 idle)) (h19 : w.cell? ⟨b, 19, none⟩ = some (.int .i32 s)) (f19 : w.frozen? ⟨b, 19, none⟩ = false)
    (c1 : decide (0 < s) = false) :
    Calls Yba.prog 5 #[.pointer (some ⟨b, 0, none⟩)] w fun e w' => e = .returned (.bool true) ∧ ∃ n, w' = (w.setCell ⟨b, 19, none⟩ (.int .i32 (s + 1))).drewN n := by
  go_enter Yba.func5, Yba.ntmps5
  go_wp2
  refine wp_loop_rounds 1 ?_
  rw [rounds_succ]
  go_wp2_with fail
  refine (load_any b 19 s _ h19).mono ?_
  rintro e w' ⟨rfl, rfl⟩
  go_wp2_with fail
  go_quiet ((go_at_call 6; exact Calls.quiet_of_same (load_any b 18 idle _ (by exact h18))))
  go_wp2_with fail
  refine (cas_hit b 19 s (s + 1) _ (by exact h19) (by exact f19)).mono ?_
  rintro e w' ⟨rfl, rfl⟩
  go_wp2
  go_ret
  exact ⟨rfl, _, rfl⟩

set_option maxRecDepth 100000 in
set_option maxHeartbeats 400000 in
/-- Few search. -/
theorem start_few (b p : Nat) (a : Option Addr) (idle s : Int) (hp : p ≤ 512) (hi1 : -1048576 ≤ idle) (hi2 : idle ≤ 1048576) (hs1 : -1048576 ≤ s) (hs2 : s ≤ 1048576) (w : World)
    (h0 : w.cell? ⟨b, 0, none⟩ = some (.slice a p p)) (h18 : w.cell? ⟨b, 18, none⟩ = some (.int .i32 idle)) (h19 : w.cell? ⟨b, 19, none⟩ = some (.int .i32 s)) (f19 : w.frozen? ⟨b, 19, none⟩ = false)
    (c1 : 0 < s) (c2 : 2 * s < p - idle) :
    Calls Yba.prog 5 #[.pointer (some ⟨b, 0, none⟩)] w fun e w' => e = .returned (.bool true) ∧ ∃ n, w' = (w.setCell ⟨b, 19, none⟩ (.int .i32 (s + 1))).drewN n := by
  go_enter Yba.func5, Yba.ntmps5
  go_wp2
  refine wp_loop_rounds 1 ?_
  rw [rounds_succ]
  go_wp2_with fail
  refine (load_any b 19 s _ h19).mono ?_
  rintro e w' ⟨rfl, rfl⟩
  go_wp2_with fail
  go_quiet ((go_at_call 6; exact Calls.quiet_of_same (load_any b 18 idle _ (by exact h18))))
  go_wp2_with fail
  refine (cas_hit b 19 s (s + 1) _ (by exact h19) (by exact f19)).mono ?_
  rintro e w' ⟨rfl, rfl⟩
  go_wp2
  go_ret
  exact ⟨rfl, _, rfl⟩

end Go.Proofs.Ybulkdieg
