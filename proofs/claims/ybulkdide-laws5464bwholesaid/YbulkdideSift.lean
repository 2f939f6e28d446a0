import Derived.Test.YbulkdideRows
import Derived.Test.YbulkdideHeap
import Derived.WalkKit
import Derived.WalkLawsBesides
import Derived.Deep.QuietTactic
import Derived.BigQuiet
namespace Go.Proofs.Ybulkdide
open Go.RowKit Heapy

/-- The row of block b holds z's first n numbers; none of them is frozen. -/
def Row (b n : Nat) (z : Nat → Int) (w : World) : Prop := (∀ k, k < n → w.cell? ⟨b, k, none⟩ = some (.int .u64 (z k))) ∧ ∀ k, k < n → w.frozen? ⟨b, k, none⟩ = false

/-- What the sift knows of the world in the midst of it: the row; nothing below it has turned; no block is new. -/
def St (b n : Nat) (z : Nat → Int) (w wr : World) : Prop := Row b n z wr ∧ Below b w wr ∧ wr.heap.size = w.heap.size

theorem St.drewN {b n : Nat} {z : Nat → Int} {w wr : World} (h : St b n z w wr) (k : Nat) : St b n z w (wr.drewN k) :=
  ⟨⟨h.1.1, h.1.2⟩, below_drewN h.2.1 k, h.2.2⟩

theorem St.swap {b n : Nat} {z : Nat → Int} {w wr : World} (h : St b n z w wr) (i m : Nat) (hi : i < n) (hm : m < n) (hne : i ≠ m) :
    St b n (swap z i m) w ((wr.setCell ⟨b, i, none⟩ (.int .u64 (z m))).setCell ⟨b, m, none⟩ (.int .u64 (z i))) := by
  obtain ⟨⟨hc, hf⟩, hb, hs⟩ := h
  refine ⟨⟨?_, ?_⟩, (hb.setCell (Nat.le_refl _) _).setCell (Nat.le_refl _) _, by simpa using hs⟩
  · intro k hk
    by_cases ekm : k = m
    · subst ekm
      have : (wr.setCell ⟨b, i, none⟩ (.int .u64 (z k))).cell? ⟨b, k, none⟩ = some (.int .u64 (z k)) := by
        rw [World.cell?_setCell_other _ _ _ _ (by simp)]; exact hc k hk
      rw [World.cell?_setCell_same _ _ _ this]
      simp [Heapy.swap]
    · rw [World.cell?_setCell_other _ _ _ _ (by simp)]
      by_cases eki : k = i
      · subst eki
        rw [World.cell?_setCell_same _ _ _ (hc k hk)]
        simp [Heapy.swap, hne]
      · rw [World.cell?_setCell_other _ _ _ _ (by simp), hc k hk]
        simp [Heapy.swap, ekm, eki]
  · intro k hk
    simpa using hf k hk

set_option maxHeartbeats 1000000 in
theorem heapify_any (b n : Nat) (z : Nat → Int) (hn : n ≤ 65536) (h2 : 2 ≤ n) (w : World) (hr : Row b n z w) :
    Calls Yba.prog 4 #[.slice (some ⟨b, 0, none⟩) n n] w fun e w' => e = .returned (.tuple #[]) ∧ ∃ z', From z' n 0 ∧ St b n z' w w' := by
  have hst : St b n z w w := ⟨hr, Below.refl _ _, rfl⟩
  go_enter Yba.func4, Yba.ntmps4
  go_wp2
  go_loopw [3] (fun s wr => ∃ t : Nat, t ≤ n / 2 ∧ s = .int .i64 ((t : Int) - 1) ∧ ∃ z', From z' n t ∧ St b n z' w wr) (fun s _ => (intOf s + 1).toNat)
  case atStart => exact ⟨n / 2, Nat.le_refl _, by simp, z, from_half _ _ _ (by omega), hst⟩
  case round =>
    obtain ⟨t, ht, rfl, z1, hfrom, hst1⟩ := hrel
    clear hst hr
    by_cases ht0 : t = 0
    · subst ht0
      go_wp2
      go_end0
      exact ⟨rfl, z1, hfrom, hst1⟩
    · obtain ⟨s, rfl⟩ : ∃ s, t = s + 1 := ⟨t - 1, by omega⟩
      have hs1 : ((s + 1 : Nat) : Int) - 1 = (s : Int) := by omega
      rw [hs1]
      have hsm : 2 * s + 1 < n := by omega
      clear hs1 ht ht0
      go_wp2
      go_loopw [4] (fun iv wr => ∃ i : Nat, i < n ∧ iv = .int .i64 i ∧ ∃ z', Sift z' n s i ∧ St b n z' w wr) (fun iv _ => n - (intOf iv).toNat)
      case atStart => exact ⟨s, by omega, rfl, z1, sift_start hfrom, hst1⟩
      case round =>
        obtain ⟨i, hi, rfl, z2, hsift, hst2⟩ := hrel
        clear hst1 hfrom
        by_cases hleaf : n ≤ 2 * i + 1
        · have hF := sift_leaf hsift hleaf
          clear hsift
          go_wp2
          go_roundw
          case rel => exact ⟨s, by omega, by simp, z2, hF, hst2⟩
          case measure => simp [intOf]
        · have c1 := hst2.1.1 (2 * i + 1) (by omega)
          have c0 := hst2.1.1 i hi
          by_cases hr2 : 2 * i + 2 < n
          · have c2 := hst2.1.1 (2 * i + 1 + 1) (by omega)
            have hg : (2 : Int) * i + 1 + 1 < n := by omega
            by_cases hlt : z2 (2 * i + 1 + 1) < z2 (2 * i + 1)
            · have hmin : ∀ c, Kid i c → c < n → z2 (2 * i + 1 + 1) ≤ z2 c := by intro c hk _; rcases hk with rfl | rfl <;> omega
              by_cases hle : z2 i ≤ z2 (2 * i + 1 + 1)
              · have hF := sift_done hsift hle hmin
                clear hsift hmin
                go_wp2
                go_quiet (fail)
                go_wp2
                go_quiet (fail)
                go_wp2
                go_roundw
                case rel => exact ⟨s, by omega, by simp, z2, hF, hst2.drewN _⟩
                case measure => simp [intOf]
              · have hS := sift_step hsift (m := 2 * i + 1 + 1) (by unfold Kid; omega) (by omega) (by omega) hmin
                have hS2 := hst2.swap i (2 * i + 1 + 1) hi (by omega) (by omega)
                have f0 := hst2.1.2 i hi
                have fm := hst2.1.2 (2 * i + 1 + 1) (by omega)
                clear hsift hmin
                go_wp2
                go_quiet (fail)
                go_wp2
                go_quiet (fail)
                go_wp2
                go_roundw
                case rel => exact ⟨2 * i + 1 + 1, by omega, by go_num, _, hS, hS2.drewN _⟩
                case measure => simp [intOf]; omega
            · have hmin : ∀ c, Kid i c → c < n → z2 (2 * i + 1) ≤ z2 c := by intro c hk _; rcases hk with rfl | rfl <;> omega
              by_cases hle : z2 i ≤ z2 (2 * i + 1)
              · have hF := sift_done hsift hle hmin
                clear hsift hmin
                go_wp2
                go_quiet (fail)
                go_wp2
                go_quiet (fail)
                go_wp2
                go_roundw
                case rel => exact ⟨s, by omega, by simp, z2, hF, hst2.drewN _⟩
                case measure => simp [intOf]
              · have hS := sift_step hsift (m := 2 * i + 1) (by unfold Kid; omega) (by omega) (by omega) hmin
                have hS2 := hst2.swap i (2 * i + 1) hi (by omega) (by omega)
                have f0 := hst2.1.2 i hi
                have fm := hst2.1.2 (2 * i + 1) (by omega)
                clear hsift hmin
                go_wp2
                go_quiet (fail)
                go_wp2
                go_quiet (fail)
                go_wp2
                go_roundw
                case rel => exact ⟨2 * i + 1, by omega, by go_num, _, hS, hS2.drewN _⟩
                case measure => simp [intOf]; omega
          · have hg : decide ((2 : Int) * i + 1 + 1 < n) = false := decide_eq_false (by omega)
            have hmin : ∀ c, Kid i c → c < n → z2 (2 * i + 1) ≤ z2 c := by intro c hk _; rcases hk with rfl | rfl <;> omega
            by_cases hle : z2 i ≤ z2 (2 * i + 1)
            · have hF := sift_done hsift hle hmin
              clear hsift hmin
              go_wp2
              go_quiet (fail)
              go_wp2
              go_quiet (fail)
              go_wp2
              go_roundw
              case rel => exact ⟨s, by omega, by simp, z2, hF, hst2.drewN _⟩
              case measure => simp [intOf]
            · have hS := sift_step hsift (m := 2 * i + 1) (by unfold Kid; omega) (by omega) (by omega) hmin
              have hS2 := hst2.swap i (2 * i + 1) hi (by omega) (by omega)
              have f0 := hst2.1.2 i hi
              have fm := hst2.1.2 (2 * i + 1) (by omega)
              clear hsift hmin
              go_wp2
              go_quiet (fail)
              go_wp2
              go_quiet (fail)
              go_wp2
              go_roundw
              case rel => exact ⟨2 * i + 1, by omega, by go_num, _, hS, hS2.drewN _⟩
              case measure => simp [intOf]; omega

end Go.Proofs.Ybulkdide
