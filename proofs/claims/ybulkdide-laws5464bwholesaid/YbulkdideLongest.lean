import Derived.Test.YbulkdideSift
import Derived.LaidEqlPtr
namespace Go.Proofs.Ybulkdide
open Go.RowKit Heapy

/-! ### '!=' and '==' between two pointers to a level (type 29; 42 is the level). -/
theorem info42 : ∃ j, Yba.prog.info? 42 = some j ∧ j.size ≠ 0 := by
  have h : ((Yba.prog.info? 42).map fun j => j.size) = some 12 := by kernel_rfl
  cases e : Yba.prog.info? 42 with
  | none => rw [e] at h; simp at h
  | some j => rw [e] at h; simp at h; exact ⟨j, rfl, by omega⟩

theorem neq_same (a : Addr) (w : World) : (binOp .neq 29 (.pointer (some a)) (.pointer (some a))).run Yba.prog w = .ok (.bool false) w := by
  obtain ⟨j, hj, _⟩ := info42
  have h : ∀ d : Nat, (Op.equalIn (d + 1) 29 (.pointer (some a)) (.pointer (some a))).run Yba.prog w = .ok true w := fun d => by
    simp [Op.equalIn, run_underlying Yba.underlying29, sizeOf, typeInfo, hj, run_sameAddr_same]
  simp only [binOp]
  simp [Op.equal, Op.maxDepth, h 9999]

theorem neq_other {a b : Addr} {ca cb : Array Value} {ta tb : TypeId} (w : World) (hne : a ≠ b) (ha : w.heap[a.block]? = some (.cells ca ta (0, 0))) (hb : w.heap[b.block]? = some (.cells cb tb (0, 0))) :
    (binOp .neq 29 (.pointer (some a)) (.pointer (some b))).run Yba.prog w = .ok (.bool true) w := by
  obtain ⟨j, hj, hs⟩ := info42
  have h : ∀ d : Nat, (Op.equalIn (d + 1) 29 (.pointer (some a)) (.pointer (some b))).run Yba.prog w = .ok false w := fun d => by
    simp [Op.equalIn, run_underlying Yba.underlying29, sizeOf, typeInfo, hj, hs, run_sameAddr_other w hne ha hb]
  simp only [binOp]
  simp [Op.equal, Op.maxDepth, h 9999]

set_option maxRecDepth 100000 in
set_option maxHeartbeats 400000 in
theorem less_any (lb ho g l1 l2 n c : Nat) (x1 x2 : Int) (hn : 2 < n) (w : World)
    (h0 : w.cell? ⟨lb, ho, none⟩ = some (.slice (some ⟨g, 0, none⟩) n c)) (h1 : w.cell? ⟨lb, ho + 1, none⟩ = some (.int .i64 1))
    (p1 : w.cell? ⟨g, 1, none⟩ = some (.pointer (some ⟨l1, 0, none⟩))) (p2 : w.cell? ⟨g, 2, none⟩ = some (.pointer (some ⟨l2, 0, none⟩)))
    (q1 : w.cell? ⟨l1, 8, none⟩ = some (.int .u64 x1)) (q2 : w.cell? ⟨l2, 8, none⟩ = some (.int .u64 x2)) :
    Calls Yba.prog 6 #[.pointer (some ⟨lb, ho, none⟩), .int .i64 2, .int .i64 1] w fun e w' => e = .returned (.bool (decide (x2 < x1))) ∧ ∃ k, w' = w.drewN k := by
  have hn1 : (1 : Int) < n := by omega
  have hn2 : (2 : Int) < n := by omega
  go_enter Yba.func6, Yba.ntmps6
  go_wp2
  go_quiet (fail)
  go_wp2
  go_quiet (fail)
  go_wp2
  go_ret
  exact ⟨rfl, _, World.drewN_drewN _ _ _⟩

set_option maxRecDepth 100000 in
set_option maxHeartbeats 400000 in
/-- The heap's first level is not the highest. -/
theorem longest_first (lb g q a0 at' n c : Nat) (hn : 2 ≤ n) (hne : a0 ≠ at') (w : World)
    (h0 : w.cell? ⟨lb, 21, none⟩ = some (.slice (some ⟨g, 0, none⟩) n c)) (h1 : w.cell? ⟨lb, 19, none⟩ = some (.slice (some ⟨q, 0, none⟩) 1 1))
    (p0 : w.cell? ⟨g, 0, none⟩ = some (.pointer (some ⟨a0, 0, none⟩))) (pt : w.cell? ⟨q, 0, none⟩ = some (.pointer (some ⟨at', 0, none⟩)))
    (c0 ct : Array Value) (b0 : w.heap[a0]? = some (.cells c0 42 (0, 0))) (bt : w.heap[at']? = some (.cells ct 42 (0, 0))) :
    Calls Yba.prog 5 #[.pointer (some ⟨lb, 0, none⟩)] w fun e w' => e = .returned (.pointer (some ⟨a0, 0, none⟩)) ∧ ∃ k, w' = w.drewN k := by
  have hn0 : (0 : Int) < n := by omega
  have hq : ∀ k, (binOp .neq 29 (.pointer (some ⟨a0, 0, none⟩)) (.pointer (some ⟨at', 0, none⟩))).run Yba.prog (w.drewN k) = .ok (.bool true) (w.drewN k) := fun k => neq_other (w.drewN k) (by simp) b0 bt
  clear b0 bt
  go_enter Yba.func5, Yba.ntmps5
  go_wp2
  go_quiet (fail)
  go_wp2
  go_ret
  exact ⟨rfl, _, rfl⟩

set_option maxRecDepth 100000 in
set_option maxHeartbeats 400000 in
/-- It is, and there are two levels. -/
theorem longest_two (lb g q a0 a1 c : Nat) (w : World)
    (h0 : w.cell? ⟨lb, 21, none⟩ = some (.slice (some ⟨g, 0, none⟩) 2 c)) (h1 : w.cell? ⟨lb, 19, none⟩ = some (.slice (some ⟨q, 0, none⟩) 1 1))
    (p0 : w.cell? ⟨g, 0, none⟩ = some (.pointer (some ⟨a0, 0, none⟩))) (pt : w.cell? ⟨q, 0, none⟩ = some (.pointer (some ⟨a0, 0, none⟩)))
    (p1 : w.cell? ⟨g, 1, none⟩ = some (.pointer (some ⟨a1, 0, none⟩))) :
    Calls Yba.prog 5 #[.pointer (some ⟨lb, 0, none⟩)] w fun e w' => e = .returned (.pointer (some ⟨a1, 0, none⟩)) ∧ ∃ k, w' = w.drewN k := by
  have hq := neq_same ⟨a0, 0, none⟩
  go_enter Yba.func5, Yba.ntmps5
  go_wp2
  go_quiet (fail)
  go_wp2
  go_ret
  exact ⟨rfl, _, rfl⟩

set_option maxRecDepth 100000 in
set_option maxHeartbeats 400000 in
/-- It is, and there are more. -/
theorem longest_more (lb g q a0 a1 a2 n c : Nat) (x1 x2 : Int) (hn : 2 < n) (w : World)
    (h0 : w.cell? ⟨lb, 21, none⟩ = some (.slice (some ⟨g, 0, none⟩) n c)) (h1 : w.cell? ⟨lb, 19, none⟩ = some (.slice (some ⟨q, 0, none⟩) 1 1)) (ho : w.cell? ⟨lb, 22, none⟩ = some (.int .i64 1))
    (p0 : w.cell? ⟨g, 0, none⟩ = some (.pointer (some ⟨a0, 0, none⟩))) (pt : w.cell? ⟨q, 0, none⟩ = some (.pointer (some ⟨a0, 0, none⟩)))
    (p1 : w.cell? ⟨g, 1, none⟩ = some (.pointer (some ⟨a1, 0, none⟩))) (p2 : w.cell? ⟨g, 2, none⟩ = some (.pointer (some ⟨a2, 0, none⟩)))
    (q1 : w.cell? ⟨a1, 8, none⟩ = some (.int .u64 x1)) (q2 : w.cell? ⟨a2, 8, none⟩ = some (.int .u64 x2)) :
    Calls Yba.prog 5 #[.pointer (some ⟨lb, 0, none⟩)] w fun e w' => e = .returned (.pointer (some ⟨if x2 < x1 then a2 else a1, 0, none⟩)) ∧ ∃ k, w' = w.drewN k := by
  have hn0 : (0 : Int) < n := by omega
  have hn1 : (1 : Int) < n := by omega
  have hn2 : (2 : Int) < n := by omega
  have hq := neq_same ⟨a0, 0, none⟩
  by_cases hx : x2 < x1
  · rw [if_pos hx]
    go_enter Yba.func5, Yba.ntmps5
    go_wp2
    go_quiet (fail)
    go_wp2_with fail
    refine (less_any lb 21 g a1 a2 n c x1 x2 hn _ (by exact h0) (by exact ho) (by exact p1) (by exact p2) (by exact q1) (by exact q2)).mono ?_
    rintro e w' ⟨rfl, k, rfl⟩
    go_wp2
    go_ret
    exact ⟨rfl, _, rfl⟩
  · rw [if_neg hx]
    go_enter Yba.func5, Yba.ntmps5
    go_wp2
    go_quiet (fail)
    go_wp2_with fail
    refine (less_any lb 21 g a1 a2 n c x1 x2 hn _ (by exact h0) (by exact ho) (by exact p1) (by exact p2) (by exact q1) (by exact q2)).mono ?_
    rintro e w' ⟨rfl, k, rfl⟩
    go_wp2
    go_ret
    exact ⟨rfl, _, rfl⟩
end Go.Proofs.Ybulkdide
