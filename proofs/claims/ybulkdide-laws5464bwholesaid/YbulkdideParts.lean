/-
  WHAT THE LAW's WALK KNOWS OF ITS OWN MEMORY, stage by stage: lemmas outside the walk.
-/
import Derived.Test.YbulkdideLongest
import Derived.ProofKit
import Derived.Deep.OwnRows
namespace Go.Proofs.Ybulkdide
open Go.RowKit Go.WideShapes Heapy Go.Deep

/-- WHAT THE WALK IS TOLD OF A SLICE OF INTEGERS THAT CAME IN: it is nil; or it leads to a row of 'cap' cells, the numbers 'zs' (the first 'len' are its elements, the rest its spare room), each fitting its kind. -/
def IsRow (k : IntKind) (w : World) (a : Option Addr) (len cap : Nat) (zs : List Int) : Prop :=
  (a = none ∧ len = 0 ∧ cap = 0 ∧ zs = []) ∨
  ∃ x, a = some x ∧ len ≤ cap ∧ cap ≤ maxLen ∧ zs.length = cap ∧ (∀ i, i < zs.length → w.cell? (x.add i) = some (.int k (zs.getD i 0))) ∧ ∀ n ∈ zs, (Lit.int k n).wf = true

/-- An element of it: where it lies, and that it lies in old memory. -/
theorem isRow_at {kd : IntKind} {w : World} {a : Option Addr} {len cap : Nat} {zs : List Int} (h : IsRow kd w a len cap zs) (k : Nat) (hk : k < len) :
    ∃ b off, a = some ⟨b, off, none⟩ ∧ w.cell? ⟨b, off + k, none⟩ = some (.int kd (zs.getD k 0)) ∧ b < w.heap.size := by
  rcases h with ⟨_, rfl, _⟩ | ⟨x, rfl, h1, _, h3, h4, _⟩
  · omega
  · obtain ⟨b, off, spot⟩ := x
    have hc := h4 k (by omega)
    have hs : spot = none := by simpa [Addr.add] using World.cell?_spot (h4 0 (by omega))
    subst hs
    rw [add_plain] at hc
    exact ⟨b, off, rfl, hc, World.block_lt_of_cell? w _ hc⟩

theorem info25 : (Yba.prog.info? 25).map (fun i => (i.zero, i.size, i.bytes)) = some (some (.int .u64 0), 1, 8) := by kernel_rfl
theorem info29 : (Yba.prog.info? 29).map (fun i => (i.zero, i.size, i.bytes)) = some (some (.pointer none), 1, 8) := by kernel_rfl

/-! ### STAGE 1: the array v, in the block behind all that was there. -/
def V (w : World) (n : Nat) (z : Nat → Int) (wr : World) : Prop := Row w.heap.size n z wr ∧ Below w.heap.size w wr ∧ wr.heap.size = w.heap.size + 1

theorem V.start (w : World) (n : Nat) : V w n (fun _ => 0) (w.alloc (.cells (madeCells #[.int .u64 0] n) 25)) := by
  refine ⟨⟨fun k hk => ?_, fun k hk => ?_⟩, (Below.refl _ _).alloc (Nat.le_refl _) _, by simp⟩
  · rw [World.cell?_alloc_at _ _ _ _ rfl]
    rw [← Array.getElem?_toList, toList_madeCells_one]
    simp [hk]
  · simp

theorem V.store {w wr : World} {n : Nat} {z : Nat → Int} (h : V w n z wr) (k : Nat) (hk : k < n) (x : Int) :
    V w n (fun j => if j = k then x else z j) (wr.setCell ⟨w.heap.size, k, none⟩ (.int .u64 x)) := by
  obtain ⟨⟨hc, hf⟩, hb, hs⟩ := h
  refine ⟨⟨fun j hj => ?_, fun j hj => by simpa using hf j hj⟩, hb.setCell (Nat.le_refl _) _, by simpa using hs⟩
  by_cases e : j = k
  · subst e
    rw [World.cell?_setCell_same _ _ _ (hc j hj)]
    simp
  · rw [World.cell?_setCell_other _ _ _ _ (by simp), hc j hj]
    simp [e]

theorem V.heap {w wr w' : World} {n : Nat} {z z' : Nat → Int} (h : V w n z wr) (hs : St w.heap.size n z' wr w') : V w n z' w' :=
  ⟨hs.1, h.2.1.trans hs.2.1, hs.2.2.trans h.2.2⟩

/-! ### STAGE 2: the levels, a block each, behind the array of the pointers to them. -/
/-- A level as the law's text lays it. -/
def lev (j : Nat) (x : Int) : Array Value := #[.int .i64 j, .int .i32 j, .slice none 0 0, .int .i64 0, .pointer none, .int .i64 0, .int .i64 0, .int .u32 0, .int .u64 x, .int .i64 0, .int .i64 0, .int .i64 0]

/-- k levels are laid. -/
structure Lv (w : World) (n : Nat) (z : Nat → Int) (k : Nat) (wr : World) : Prop where
  v : ∀ j, j < n → wr.cell? ⟨w.heap.size, j, none⟩ = some (.int .u64 (z j))
  done : ∀ j, j < k → wr.cell? ⟨w.heap.size + 1, j, none⟩ = some (.pointer (some ⟨w.heap.size + 2 + j, 0, none⟩))
  todo : ∀ j, k ≤ j → j < n → wr.cell? ⟨w.heap.size + 1, j, none⟩ = some (.pointer none)
  free : ∀ j, j < n → wr.frozen? ⟨w.heap.size + 1, j, none⟩ = false
  laid : ∀ j, j < k → wr.heap[w.heap.size + 2 + j]? = some (.cells (lev j (z j)) 42 (0, 0))
  below : Below w.heap.size w wr
  size : wr.heap.size = w.heap.size + 2 + k

theorem Lv.start {w w1 : World} {n : Nat} {z : Nat → Int} (h : V w n z w1) : Lv w n z 0 (w1.alloc (.cells (madeCells #[.pointer none] n) 29)) := by
  obtain ⟨⟨hc, _⟩, hb, hs⟩ := h
  refine ⟨fun j hj => ?_, fun j hj => by omega, fun j _ hj => ?_, fun j hj => ?_, fun j hj => by omega, hb.alloc (by omega) _, ?_⟩
  · rw [World.cell?_alloc_past _ _ _ (by omega)]; exact hc j hj
  · rw [World.cell?_alloc_at _ _ _ _ (by omega), ← Array.getElem?_toList, toList_madeCells_one]
    simp [hj]
  · rw [World.frozen?_alloc_at _ _ _ _ (by omega)]
  · simp; omega

theorem Lv.step {w wr : World} {n k : Nat} {z : Nat → Int} (h : Lv w n z k wr) (hk : k < n) :
    Lv w n z (k + 1) ((wr.alloc (.cells (lev k (z k)) 42)).setCell ⟨w.heap.size + 1, k, none⟩ (.pointer (some ⟨w.heap.size + 2 + k, 0, none⟩))) := by
  have hs := h.size
  have hold : ∀ j, (wr.alloc (.cells (lev k (z k)) 42)).cell? ⟨w.heap.size + 1, j, none⟩ = wr.cell? ⟨w.heap.size + 1, j, none⟩ := fun j => World.cell?_alloc_past _ _ _ (by omega)
  refine ⟨fun j hj => ?_, fun j hj => ?_, fun j hkj hj => ?_, fun j hj => ?_, fun j hj => ?_, (h.below.alloc (by omega) _).setCell (by simp) _, ?_⟩
  · rw [World.cell?_setCell_other _ _ _ _ (by simp), World.cell?_alloc_past _ _ _ (by omega)]; exact h.v j hj
  · by_cases e : j = k
    · subst e
      rw [World.cell?_setCell_same _ _ _ ((hold j).trans (h.todo j (Nat.le_refl _) hk))]
    · rw [World.cell?_setCell_other _ _ _ _ (by simp), hold j]; exact h.done j (by omega)
  · rw [World.cell?_setCell_other _ _ _ _ (by simp), hold j]; exact h.todo j (by omega) hj
  · rw [World.frozen?_setCell, World.frozen?_alloc_past _ _ _ (by omega)]; exact h.free j hj
  · rw [Below.heap_setCell _ _ _ _ (by show _ ≠ w.heap.size + 1; omega)]
    by_cases e : j = k
    · subst e
      rw [show w.heap.size + 2 + j = wr.heap.size from hs.symm]
      exact heap_alloc_new _ _
    · rw [Below.heap_alloc _ _ _ (by omega)]; exact h.laid j (by omega)
  · simp; omega

/-! ### STAGE 3: all is laid: from here on the law only reads. -/
/-- The pointers to the levels. -/
def ptrs (w : World) (n : Nat) : List Value := (List.range n).map fun j => .pointer (some ⟨w.heap.size + 2 + j, 0, none⟩)

theorem ptrs_at (w : World) (n j : Nat) (hj : j < n) : (ptrs w n)[j]? = some (.pointer (some ⟨w.heap.size + 2 + j, 0, none⟩)) := by
  simp [ptrs, hj]

/-- The line of levels l lies at block lb, its heap by age at g (of capacity c), its heap by priority at q; the highest level is number t. -/
structure Fin (w : World) (n : Nat) (z : Nat → Int) (t g q lb c : Nat) (wr : World) : Prop where
  v : ∀ j, j < n → wr.cell? ⟨w.heap.size, j, none⟩ = some (.int .u64 (z j))
  ps : ∀ j, j < n → wr.cell? ⟨w.heap.size + 1, j, none⟩ = some (.pointer (some ⟨w.heap.size + 2 + j, 0, none⟩))
  laid : ∀ j, j < n → wr.heap[w.heap.size + 2 + j]? = some (.cells (lev j (z j)) 42 (0, 0))
  gs : ∀ j, j < n → wr.cell? ⟨g, j, none⟩ = some (.pointer (some ⟨w.heap.size + 2 + j, 0, none⟩))
  qs : wr.cell? ⟨q, 0, none⟩ = some (.pointer (some ⟨w.heap.size + 2 + t, 0, none⟩))
  l19 : wr.cell? ⟨lb, 19, none⟩ = some (.slice (some ⟨q, 0, none⟩) 1 1)
  l20 : wr.cell? ⟨lb, 20, none⟩ = some (.int .i64 0)
  l21 : wr.cell? ⟨lb, 21, none⟩ = some (.slice (some ⟨g, 0, none⟩) n c)
  l22 : wr.cell? ⟨lb, 22, none⟩ = some (.int .i64 1)
  below : Below w.heap.size w wr

theorem Fin.drewN {w : World} {n : Nat} {z : Nat → Int} {t g q lb c : Nat} {wr : World} (h : Fin w n z t g q lb c wr) (k : Nat) : Fin w n z t g q lb c (wr.drewN k) :=
  ⟨h.v, h.ps, h.laid, h.gs, h.qs, h.l19, h.l20, h.l21, h.l22, below_drewN h.below k⟩

theorem cell_of_laid {wr : World} {b i : Nat} {c : Array Value} {ty : TypeId} {m : Nat × Nat} (h : wr.heap[b]? = some (.cells c ty m)) : wr.cell? ⟨b, i, none⟩ = c[i]? := by
  simp [World.cell?, h]

theorem Fin.first {w : World} {n : Nat} {z : Nat → Int} {t g q lb c : Nat} {wr : World} (h : Fin w n z t g q lb c wr) (j : Nat) (hj : j < n) : wr.cell? ⟨w.heap.size + 2 + j, 8, none⟩ = some (.int .u64 (z j)) := by
  rw [cell_of_laid (h.laid j hj)]; rfl
theorem Fin.priority {w : World} {n : Nat} {z : Nat → Int} {t g q lb c : Nat} {wr : World} (h : Fin w n z t g q lb c wr) (j : Nat) (hj : j < n) : wr.cell? ⟨w.heap.size + 2 + j, 0, none⟩ = some (.int .i64 j) := by
  rw [cell_of_laid (h.laid j hj)]; rfl
theorem Fin.number {w : World} {n : Nat} {z : Nat → Int} {t g q lb c : Nat} {wr : World} (h : Fin w n z t g q lb c wr) (j : Nat) (hj : j < n) : wr.cell? ⟨w.heap.size + 2 + j, 1, none⟩ = some (.int .i32 j) := by
  rw [cell_of_laid (h.laid j hj)]; rfl

theorem fin_made {w wr w2 : World} {n t : Nat} {z : Nat → Int} (hL : Lv w n z n wr) (h2 : 2 ≤ n) {v' : Value}
    (hown : w2.ownsRow w.heap.size 29 1 v' n (ptrs w n)) (hg : (wr.alloc (.cells #[.pointer (some ⟨w.heap.size + 2 + t, 0, none⟩)] 29)).grownBy w2 none) :
    ∃ g cap, v' = .slice (some ⟨g, 0, none⟩) n cap ∧ ∀ A : Array Value, A[19]? = some (.slice (some ⟨wr.heap.size, 0, none⟩) 1 1) → A[20]? = some (.int .i64 0) → A[21]? = some v' → A[22]? = some (.int .i64 1) →
      Fin w n z t g wr.heap.size w2.heap.size cap (w2.alloc (.cells A 79)) := by
  have hs := hL.size
  obtain ⟨_, hv | ⟨g, cap, cur, hv, _, hcur, hcap, _, hsz, htake⟩⟩ := hown
  · omega
  refine ⟨g, cap, hv, fun A h19 h20 h21 h22 => ?_⟩
  subst hv
  have hold : ∀ k, k < wr.heap.size → w2.heap[k]? = wr.heap[k]? := fun k hk => by
    rw [hg.block k (by simp; omega) (by simp), Below.heap_alloc _ _ _ hk]
  have hsize : wr.heap.size + 1 ≤ w2.heap.size := by have := hg.size; simpa using this
  have holdc : ∀ b i, b < wr.heap.size → (w2.alloc (.cells A 79)).cell? ⟨b, i, none⟩ = wr.cell? ⟨b, i, none⟩ := fun b i hb => by
    rw [World.cell?_alloc_past _ _ _ (by omega)]
    exact World.cell?_of_block (w := wr) (hold b hb)
  have hgl : g < w2.heap.size := by
    rcases Nat.lt_or_ge g w2.heap.size with h | h
    · exact h
    · rw [Array.getElem?_eq_none h] at hcur; cases hcur
  refine ⟨fun j hj => ?_, fun j hj => ?_, fun j hj => ?_, fun j hj => ?_, ?_, ?_, ?_, ?_, ?_, ?_⟩
  · rw [holdc _ _ (by omega)]; exact hL.v j hj
  · rw [holdc _ _ (by omega)]; exact hL.done j hj
  · rw [Below.heap_alloc _ _ _ (by omega), hold _ (by omega)]; exact hL.laid j hj
  · rw [World.cell?_alloc_past _ _ _ hgl, cell_of_laid hcur, ← Array.getElem?_toList]
    have := ptrs_at w n j hj
    rw [← htake, List.getElem?_take_of_lt (by omega)] at this
    exact this
  · rw [World.cell?_alloc_past _ _ _ (by omega)]
    have : w2.heap[wr.heap.size]? = some (.cells #[.pointer (some ⟨w.heap.size + 2 + t, 0, none⟩)] 29) := by
      rw [hg.block _ (by simp) (by simp)]; exact heap_alloc_new _ _
    rw [cell_of_laid this]; rfl
  · rw [World.cell?_alloc_at _ _ _ _ rfl]; exact h19
  · rw [World.cell?_alloc_at _ _ _ _ rfl]; exact h20
  · rw [World.cell?_alloc_at _ _ _ _ rfl]; exact h21
  · rw [World.cell?_alloc_at _ _ _ _ rfl]; exact h22
  · exact ((hL.below.alloc (by omega) _).grown hg (by simp; omega) (fun k e => by cases e)).alloc (by omega) _

/-! ### What the law's own search comes to. -/
def wantTo (z : Nat → Int) (t : Nat) : Nat → Option Nat
  | 0 => none
  | k + 1 => if k = t then wantTo z t k else match wantTo z t k with
    | none => some k
    | some m => if z k < z m then some k else some m

theorem wantTo_lt (z : Nat → Int) (t : Nat) : ∀ k m, wantTo z t k = some m → m < k := by
  intro k
  induction k with
  | zero => intro m h; simp [wantTo] at h
  | succ k ih =>
    intro m h
    unfold wantTo at h
    split at h
    · have := ih m h; omega
    · split at h
      · simp at h; omega
      · rename_i m' e
        have := ih m' e
        split at h <;> simp at h <;> omega

/-- The highest is not the heap's first: it is the first. -/
theorem wantTo_first {z : Nat → Int} {n t : Nat} (h : From z n 0) (ht : t ≠ 0) : ∀ k, 1 ≤ k → k ≤ n → wantTo z t k = some 0 := by
  intro k
  induction k with
  | zero => intro h; omega
  | succ k ih =>
    intro _ hk
    unfold wantTo
    by_cases e : k = 0
    · subst e
      rw [if_neg (by omega)]
      simp [wantTo]
    · rw [ih (by omega) (by omega)]
      have := root_least h k (by omega)
      split
      · rfl
      · simp only []
        rw [if_neg (by omega)]

/-- It is the heap's first, and there are two: the other. -/
theorem wantTo_two {z : Nat → Int} : wantTo z 0 2 = some 1 := by simp [wantTo]

/-- It is the heap's first, and there are more: the lesser of its children. -/
theorem wantTo_more {z : Nat → Int} {n : Nat} (h : From z n 0) : ∀ k, 3 ≤ k → k ≤ n → wantTo z 0 k = some (if z 2 < z 1 then 2 else 1) := by
  intro k
  induction k with
  | zero => intro h; omega
  | succ k ih =>
    intro h3 hk
    by_cases e : k = 2
    · subst e
      simp [wantTo]
      split <;> rfl
    · unfold wantTo
      rw [if_neg (by omega), ih (by omega) (by omega)]
      have hs := second_least h k (by omega) (by omega)
      simp only []
      have : ¬ z k < z (if z 2 < z 1 then 2 else 1) := by
        split
        · rcases hs with hs | ⟨_, hs⟩ <;> omega
        · rcases hs with hs | ⟨_, hs⟩ <;> omega
      rw [if_neg this]

/-! ### The side conditions of 'append([]*level(nil), lvs...)'. -/
theorem ptrs_length (w : World) (n : Nat) : (ptrs w n).length = n * 1 := by simp [ptrs]
theorem ptrs_one (w : World) (n : Nat) : ∀ u, u ∈ ptrs w n → u.oneCell' = true := by
  intro u hu
  simp [ptrs] at hu
  obtain ⟨j, _, rfl⟩ := hu
  rfl
theorem ptrs_cells {w wr : World} {n : Nat} {z : Nat → Int} (hL : Lv w n z n wr) (o : Obj) :
    ∀ (j : Nat) (u : Value), (ptrs w n)[j]? = some u → (wr.alloc o).cell? ((⟨w.heap.size + 1, 0, none⟩ : Addr).add j) = some u := by
  intro j u hu
  have hs := hL.size
  have hj : j < n := by
    rcases Nat.lt_or_ge j n with h | h
    · exact h
    · rw [List.getElem?_eq_none (by rw [ptrs_length]; omega)] at hu; cases hu
  rw [ptrs_at w n j hj] at hu
  rw [add_plain, Nat.zero_add, World.cell?_alloc_past _ _ _ (by omega), hL.done j hj]
  exact hu

/-! ### longestWaiting, in the law's own memory. -/
theorem longest_law {w : World} {n : Nat} {z : Nat → Int} {t g q lb c : Nat} {wr : World} (h : Fin w n z t g q lb c wr) (hF : From z n 0) (ht : t < n) (h2 : 2 ≤ n) :
    Calls Yba.prog 5 #[.pointer (some ⟨lb, 0, none⟩)] wr fun e w' => ∃ m, wantTo z t n = some m ∧ e = .returned (.pointer (some ⟨w.heap.size + 2 + m, 0, none⟩)) ∧ ∃ k, w' = wr.drewN k := by
  by_cases ht0 : t = 0
  · subst ht0
    by_cases hn2 : n = 2
    · subst hn2
      refine (longest_two lb g q (w.heap.size + 2 + 0) (w.heap.size + 2 + 1) c wr h.l21 h.l19 (h.gs 0 (by omega)) h.qs (h.gs 1 (by omega))).mono ?_
      rintro e w' ⟨rfl, k, rfl⟩
      exact ⟨1, wantTo_two, rfl, k, rfl⟩
    · refine (longest_more lb g q (w.heap.size + 2 + 0) (w.heap.size + 2 + 1) (w.heap.size + 2 + 2) n c (z 1) (z 2) (by omega) wr h.l21 h.l19 h.l22 (h.gs 0 (by omega)) h.qs (h.gs 1 (by omega)) (h.gs 2 (by omega)) (h.first 1 (by omega)) (h.first 2 (by omega))).mono ?_
      rintro e w' ⟨rfl, k, rfl⟩
      refine ⟨_, wantTo_more hF n (by omega) (Nat.le_refl _), ?_, k, rfl⟩
      split <;> rfl
  · refine (longest_first lb g q (w.heap.size + 2 + 0) (w.heap.size + 2 + t) n c h2 (by omega) wr h.l21 h.l19 (h.gs 0 (by omega)) h.qs _ _ (h.laid 0 (by omega)) (h.laid t ht)).mono ?_
    rintro e w' ⟨rfl, k, rfl⟩
    exact ⟨0, wantTo_first hF ht0 n (by omega) (Nat.le_refl _), rfl, k, rfl⟩

end Go.Proofs.Ybulkdide
