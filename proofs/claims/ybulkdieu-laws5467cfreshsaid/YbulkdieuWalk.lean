import Derived.Test.YbulkdieuRows
import Derived.WalkKit
import Derived.ProofKit
import Derived.OpenShut
import Derived.ShutString
import Derived.WalkLawsBesides
import Derived.LaidEqlPtr
import Derived.Laws.Pointers
import Derived.Deep.QuietTactic
import Derived.BigQuiet
namespace Go.Proofs.Ybulkdieu
open Go.RowKit

/-! ### '==' and '!=' between two pointers to a router (type 22, to 35) and to a scope (type 24, to 27). -/
theorem info35 : ∃ j, Yba.prog.info? 35 = some j ∧ j.size ≠ 0 := by
  have h : ((Yba.prog.info? 35).map fun j => decide (j.size ≠ 0)) = some true := by kernel_rfl
  cases e : Yba.prog.info? 35 with
  | none => rw [e] at h; simp at h
  | some j => rw [e] at h; simp at h; exact ⟨j, rfl, h⟩
theorem info27 : ∃ j, Yba.prog.info? 27 = some j ∧ j.size ≠ 0 := by
  have h : ((Yba.prog.info? 27).map fun j => decide (j.size ≠ 0)) = some true := by kernel_rfl
  cases e : Yba.prog.info? 27 with
  | none => rw [e] at h; simp at h
  | some j => rw [e] at h; simp at h; exact ⟨j, rfl, h⟩

theorem neq_same (a : Addr) (w : World) : (binOp .neq 22 (.pointer (some a)) (.pointer (some a))).run Yba.prog w = .ok (.bool false) w := by
  obtain ⟨j, hj, _⟩ := info35
  have h : ∀ d : Nat, (Op.equalIn (d + 1) 22 (.pointer (some a)) (.pointer (some a))).run Yba.prog w = .ok true w := fun d => by
    simp [Op.equalIn, run_underlying Yba.underlying22, sizeOf, typeInfo, hj, run_sameAddr_same]
  simp only [binOp]
  simp [Op.equal, Op.maxDepth, h 9999]

theorem eql_same (a : Addr) (w : World) : (binOp .eql 22 (.pointer (some a)) (.pointer (some a))).run Yba.prog w = .ok (.bool true) w := by
  obtain ⟨j, hj, _⟩ := info35
  exact run_eql_ptr_same w a Yba.underlying22 hj

theorem eql_other {a b : Addr} {ca cb : Array Value} {ta tb : TypeId} (w : World) (hne : a ≠ b) (ha : w.heap[a.block]? = some (.cells ca ta (0, 0))) (hb : w.heap[b.block]? = some (.cells cb tb (0, 0))) :
    (binOp .eql 22 (.pointer (some a)) (.pointer (some b))).run Yba.prog w = .ok (.bool false) w := by
  obtain ⟨j, hj, hs⟩ := info35
  exact run_eql_ptr_other w Yba.underlying22 hj hs hne ha hb

theorem neq_other {a b : Addr} {ca cb : Array Value} {ta tb : TypeId} (w : World) (hne : a ≠ b) (ha : w.heap[a.block]? = some (.cells ca ta (0, 0))) (hb : w.heap[b.block]? = some (.cells cb tb (0, 0))) :
    (binOp .neq 24 (.pointer (some a)) (.pointer (some b))).run Yba.prog w = .ok (.bool true) w := by
  obtain ⟨j, hj, hs⟩ := info27
  have h : ∀ d : Nat, (Op.equalIn (d + 1) 24 (.pointer (some a)) (.pointer (some b))).run Yba.prog w = .ok false w := fun d => by
    simp [Op.equalIn, run_underlying Yba.underlying24, sizeOf, typeInfo, hj, hs, run_sameAddr_other w hne ha hb]
  simp only [binOp]
  simp [Op.equal, Op.maxDepth, h 9999]

theorem s25 (w : World) : (binOp .neq 25 (.slice none 0 0) (.slice none 0 0)).run Yba.prog w = .ok (.bool false) w := by kernel_rfl
theorem s28 (w : World) : (binOp .neq 28 (.slice none 0 0) (.slice none 0 0)).run Yba.prog w = .ok (.bool false) w := by kernel_rfl
theorem s30 (w : World) : (binOp .neq 30 (.slice none 0 0) (.slice none 0 0)).run Yba.prog w = .ok (.bool false) w := by kernel_rfl
theorem s32 (w : World) : (binOp .neq 32 (.slice none 0 0) (.slice none 0 0)).run Yba.prog w = .ok (.bool false) w := by kernel_rfl
theorem m29 (w : World) : (binOp .neq 29 (.map none) (.map none)).run Yba.prog w = .ok (.bool false) w := by kernel_rfl

set_option maxRecDepth 100000 in
set_option maxHeartbeats 1000000 in
theorem walk_whole (w : World) : Calls Yba.prog 3 #[] w fun e w' => e = .returned (.bool true) ∧ Grown w w' := by
  have h1 := neq_same
  have h2 := s25
  have h3 := s28
  have h4 := s30
  have h5 := s32
  have h6 := m29
  go_enter Yba.func3, Yba.ntmps3
  go_wp2
  go_ret
  exact ⟨rfl, by repeat (first | exact Grown.refl _ | apply Grown.drewN | apply Grown.drew | apply Grown.alloc)⟩

set_option maxRecDepth 100000 in
set_option maxHeartbeats 1000000 in
theorem walk_fresh (w : World) : Calls Yba.prog 4 #[] w fun e w' => e = .returned (.bool true) ∧ Grown w w' := by
  have h1 := eql_same
  have h2 : ∀ c1 c2, (binOp .eql 22 (.pointer (some ⟨w.heap.size, 0, none⟩)) (.pointer (some ⟨w.heap.size + 1, 0, none⟩))).run Yba.prog ((w.alloc (.cells c1 35)).alloc (.cells c2 35)) = .ok (.bool false) ((w.alloc (.cells c1 35)).alloc (.cells c2 35)) := fun c1 c2 =>
    eql_other _ (by simp) ((Below.heap_alloc _ _ _ (by simp)).trans (heap_alloc_new _ _)) (by simpa using heap_alloc_new (w.alloc (.cells c1 35)) (.cells c2 35))
  have h3 : ∀ c1 c2 n, (binOp .neq 24 (.pointer (some ⟨w.heap.size, 0, none⟩)) (.pointer (some ⟨w.heap.size + 1, 0, none⟩))).run Yba.prog (((w.alloc (.cells c1 35)).alloc (.cells c2 35)).drewN n) = .ok (.bool true) (((w.alloc (.cells c1 35)).alloc (.cells c2 35)).drewN n) := fun c1 c2 n =>
    neq_other _ (by simp) ((Below.heap_alloc _ _ _ (by simp)).trans (heap_alloc_new _ _)) (by simpa using heap_alloc_new (w.alloc (.cells c1 35)) (.cells c2 35))
  go_enter Yba.func4, Yba.ntmps4
  go_wp2
  go_quiet (fail)
  go_wp2
  go_ret
  exact ⟨rfl, by repeat (first | exact Grown.refl _ | apply Grown.drewN | apply Grown.drew | apply Grown.alloc)⟩
end Go.Proofs.Ybulkdieu
