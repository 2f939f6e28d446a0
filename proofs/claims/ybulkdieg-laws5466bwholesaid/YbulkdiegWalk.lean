import Derived.Test.YbulkdiegStart
import Derived.ProofKit
import Derived.OpenShut
namespace Go.Proofs.Ybulkdieg
open Go.RowKit

theorem info104 : (Yba.prog.info? 104).map (fun i => (i.zero.isSome, decide (i.bytes ≤ 100000))) = some (true, true) := by kernel_rfl

theorem make_any (p : Nat) (hp : p ≤ 512) : ∃ A : Array Value, ∀ w : World, (Instr.makeSlice 24 (.int .i64 (p : Int)) (.int .i64 (p : Int))).run Yba.prog w = .ok (.slice (some ⟨w.heap.size, 0, none⟩) p p) (w.alloc (.cells A 104)) := by
  obtain ⟨i, hi, hzz⟩ := Option.map_eq_some_iff.1 info104
  simp only [Prod.mk.injEq] at hzz
  obtain ⟨hz, hb⟩ := hzz
  have hb := of_decide_eq_true hb
  obtain ⟨z, hz⟩ := Option.isSome_iff_exists.1 hz
  refine ⟨madeCells z.cells (p * i.size), fun w => ?_⟩
  have h := run_make (P := Yba.prog) w 24 104 i z Yba.underlying24 hi hz .i64 .i64 p p (by omega) (by omega) (by have : ((i.bytes * p : Nat) : Int) ≤ ((100000 * 512 : Nat) : Int) := Int.ofNat_le.2 (Nat.mul_le_mul hb hp); rw [Int.natCast_mul] at this; omega) (by omega)
  simpa using h

set_option maxRecDepth 100000 in
set_option maxHeartbeats 1000000 in
/-- It refuses. -/
theorem walk_no (a0 : Int) (a1 : Int) (a2 : Int) (w0 : 0 ≤ a0) (hi1 : -1048576 ≤ a1) (hi2 : a1 ≤ 1048576) (hs1 : -1048576 ≤ a2) (hs2 : a2 ≤ 1048576) (w : World)
    (p : Nat) (hp0 : a0 % 513 = (p : Int)) (c1 : 0 < a2) (c2 : p - a1 ≤ 2 * a2) :
    Calls Yba.prog 3 #[.int .u16 a0, .int .i32 a1, .int .i32 a2] w fun e w' => e = .returned (.bool true) ∧ Grown w w' := by
  have hp : p ≤ 512 := by omega
  obtain ⟨A, hmk⟩ := make_any p hp
  have hd2 : decide ((p : Int) - a1 ≤ a2 + a2) = true := decide_eq_true (by omega)
  go_enter Yba.func3, Yba.ntmps3
  go_wp2_with fail
  refine (store_any (w.heap.size + 1) 18 a1 (.int .i32 0) _ ?u1 ?f1).mono ?_
  case f1 => simp
  case u1 => simp
  rintro e w' ⟨rfl, rfl⟩
  go_wp2_with fail
  refine (store_any (w.heap.size + 1) 19 a2 (.int .i32 0) _ ?u2 ?f2).mono ?_
  case f2 => simp
  case u2 => simp
  rintro e w' ⟨rfl, rfl⟩
  go_wp2_with fail
  refine (start_no (w.heap.size + 1) p (some ⟨w.heap.size, 0, none⟩) a1 a2 hp hi1 hi2 hs1 hs2 _ ?h0 ?h18 ?h19 c1 c2).mono ?_
  case h0 => simp
  case h18 => simp
  case h19 => simp

  rintro e w' ⟨rfl, n, rfl⟩
  go_wp2_with fail
  refine (load_any (w.heap.size + 1) 19 (a2) _ ?l1).mono ?_
  case l1 => simp
  rintro e w' ⟨rfl, rfl⟩
  go_wp2_with fail
  refine (load_any (w.heap.size + 1) 18 a1 _ ?l2).mono ?_
  case l2 => simp
  rintro e w' ⟨rfl, rfl⟩
  go_wp2
  go_ret
  exact ⟨rfl, by repeat (first | exact Grown.refl _ | apply Grown.drewN | apply Grown.drew | apply Grown.alloc)⟩

set_option maxRecDepth 100000 in
set_option maxHeartbeats 1000000 in
/-- None searches. -/
theorem walk_none (a0 : Int) (a1 : Int) (a2 : Int) (w0 : 0 ≤ a0) (hi1 : -1048576 ≤ a1) (hi2 : a1 ≤ 1048576) (hs1 : -1048576 ≤ a2) (hs2 : a2 ≤ 1048576) (w : World)
    (p : Nat) (hp0 : a0 % 513 = (p : Int)) (c1 : decide (0 < a2) = false) :
    Calls Yba.prog 3 #[.int .u16 a0, .int .i32 a1, .int .i32 a2] w fun e w' => e = .returned (.bool true) ∧ Grown w w' := by
  have hp : p ≤ 512 := by omega
  obtain ⟨A, hmk⟩ := make_any p hp
  go_enter Yba.func3, Yba.ntmps3
  go_wp2_with fail
  refine (store_any (w.heap.size + 1) 18 a1 (.int .i32 0) _ ?u1 ?f1).mono ?_
  case f1 => simp
  case u1 => simp
  rintro e w' ⟨rfl, rfl⟩
  go_wp2_with fail
  refine (store_any (w.heap.size + 1) 19 a2 (.int .i32 0) _ ?u2 ?f2).mono ?_
  case f2 => simp
  case u2 => simp
  rintro e w' ⟨rfl, rfl⟩
  go_wp2_with fail
  refine (start_none (w.heap.size + 1) p (some ⟨w.heap.size, 0, none⟩) a1 a2 hp hi1 hi2 hs1 hs2 _ ?h0 ?h18 ?h19 ?f19 c1).mono ?_
  case h0 => simp
  case h18 => simp
  case h19 => simp
  case f19 => simp
  rintro e w' ⟨rfl, n, rfl⟩
  go_wp2_with fail
  refine (load_any (w.heap.size + 1) 19 (a2 + 1) _ ?l1).mono ?_
  case l1 => simp
  rintro e w' ⟨rfl, rfl⟩
  go_wp2_with fail
  refine (load_any (w.heap.size + 1) 18 a1 _ ?l2).mono ?_
  case l2 => simp
  rintro e w' ⟨rfl, rfl⟩
  go_wp2
  go_ret
  exact ⟨rfl, by repeat (first | exact Grown.refl _ | apply Grown.drewN | apply Grown.drew | apply Grown.alloc)⟩

set_option maxRecDepth 100000 in
set_option maxHeartbeats 1000000 in
/-- Few search. -/
theorem walk_few (a0 : Int) (a1 : Int) (a2 : Int) (w0 : 0 ≤ a0) (hi1 : -1048576 ≤ a1) (hi2 : a1 ≤ 1048576) (hs1 : -1048576 ≤ a2) (hs2 : a2 ≤ 1048576) (w : World)
    (p : Nat) (hp0 : a0 % 513 = (p : Int)) (c1 : 0 < a2) (c2 : 2 * a2 < p - a1) :
    Calls Yba.prog 3 #[.int .u16 a0, .int .i32 a1, .int .i32 a2] w fun e w' => e = .returned (.bool true) ∧ Grown w w' := by
  have hp : p ≤ 512 := by omega
  obtain ⟨A, hmk⟩ := make_any p hp
  have hd2 : decide ((p : Int) - a1 ≤ a2 + a2) = false := decide_eq_false (by omega)
  go_enter Yba.func3, Yba.ntmps3
  go_wp2_with fail
  refine (store_any (w.heap.size + 1) 18 a1 (.int .i32 0) _ ?u1 ?f1).mono ?_
  case f1 => simp
  case u1 => simp
  rintro e w' ⟨rfl, rfl⟩
  go_wp2_with fail
  refine (store_any (w.heap.size + 1) 19 a2 (.int .i32 0) _ ?u2 ?f2).mono ?_
  case f2 => simp
  case u2 => simp
  rintro e w' ⟨rfl, rfl⟩
  go_wp2_with fail
  refine (start_few (w.heap.size + 1) p (some ⟨w.heap.size, 0, none⟩) a1 a2 hp hi1 hi2 hs1 hs2 _ ?h0 ?h18 ?h19 ?f19 c1 c2).mono ?_
  case h0 => simp
  case h18 => simp
  case h19 => simp
  case f19 => simp
  rintro e w' ⟨rfl, n, rfl⟩
  go_wp2_with fail
  refine (load_any (w.heap.size + 1) 19 (a2 + 1) _ ?l1).mono ?_
  case l1 => simp
  rintro e w' ⟨rfl, rfl⟩
  go_wp2_with fail
  refine (load_any (w.heap.size + 1) 18 a1 _ ?l2).mono ?_
  case l2 => simp
  rintro e w' ⟨rfl, rfl⟩
  go_wp2
  go_ret
  exact ⟨rfl, by repeat (first | exact Grown.refl _ | apply Grown.drewN | apply Grown.drew | apply Grown.alloc)⟩

set_option maxRecDepth 100000 in
/-- Beyond the law's own precondition. -/
theorem walk_out (a0 : Int) (a1 : Int) (a2 : Int) (w : World) (h : a1 < -1048576 ∨ 1048576 < a1 ∨ a2 < -1048576 ∨ 1048576 < a2) :
    Calls Yba.prog 3 #[.int .u16 a0, .int .i32 a1, .int .i32 a2] w fun e w' => e = .returned (.bool true) ∧ Grown w w' := by
  cases d1 : decide (a1 < -1048576)
  · cases d2 : decide (1048576 < a1)
    · cases d3 : decide (a2 < -1048576)
      · have d4 : decide (1048576 < a2) = true := decide_eq_true (by have := of_decide_eq_false d1; have := of_decide_eq_false d2; have := of_decide_eq_false d3; omega)
        clear h
        go_enter Yba.func3, Yba.ntmps3
        go_wp2
        go_ret
        exact ⟨rfl, Grown.refl _⟩
      · clear h
        go_enter Yba.func3, Yba.ntmps3
        go_wp2
        go_ret
        exact ⟨rfl, Grown.refl _⟩
    · clear h
      go_enter Yba.func3, Yba.ntmps3
      go_wp2
      go_ret
      exact ⟨rfl, Grown.refl _⟩
  · clear h
    go_enter Yba.func3, Yba.ntmps3
    go_wp2
    go_ret
    exact ⟨rfl, Grown.refl _⟩

theorem walk_all (a0 : Int) (a1 : Int) (a2 : Int) (w0 : 0 ≤ a0) (w : World) :
    Calls Yba.prog 3 #[.int .u16 a0, .int .i32 a1, .int .i32 a2] w fun e w' => e = .returned (.bool true) ∧ Grown w w' := by
  by_cases hout : a1 < -1048576 ∨ 1048576 < a1 ∨ a2 < -1048576 ∨ 1048576 < a2
  · exact walk_out a0 a1 a2 w hout
  · obtain ⟨p, hp⟩ : ∃ p : Nat, a0 % 513 = p := ⟨(a0 % 513).toNat, by omega⟩
    by_cases c1 : 0 < a2
    · by_cases c2 : p - a1 ≤ 2 * a2
      · exact walk_no a0 a1 a2 w0 (by omega) (by omega) (by omega) (by omega) w p hp c1 c2
      · exact walk_few a0 a1 a2 w0 (by omega) (by omega) (by omega) (by omega) w p hp c1 (by omega)
    · exact walk_none a0 a1 a2 w0 (by omega) (by omega) (by omega) (by omega) w p hp (decide_eq_false c1)

end Go.Proofs.Ybulkdieg
