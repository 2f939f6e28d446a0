/-
  SLICES OF BYTES: what the call's own rows hold ('Own'), what a slice reads as ('Reads'), and one law for 'append' onto an own row, whether it has room or not. ('[]byte(s)' lays a block with a mark behind its last cell, so the kit's 'ownsRow' does not speak of it.)
-/
import Derived.Test.YbulkdieuFmtFacts
import Derived.Deep.AppendSrc
import Derived.Laws.IdiomStrings
import Derived.Laws.BytesArg
import Derived.Laws.CopyOwn
namespace Go.Proofs.YbulkdieuFmt
open Go.RowKit Go.Extern.Stop Go.Stop Go.Extern

def cellsOf (bs : List UInt8) : List Value := bs.map fun b => .int .u8 b.toNat

theorem cellsOf_length (bs : List UInt8) : (cellsOf bs).length = bs.length := by simp [cellsOf]
theorem cellsOf_append (xs bs : List UInt8) : cellsOf (xs ++ bs) = cellsOf xs ++ cellsOf bs := by simp [cellsOf]
theorem cellsOf_at (bs : List UInt8) (j : Nat) (h : j < bs.length) : (cellsOf bs)[j]? = some (.int .u8 bs[j].toNat) := by simp [cellsOf, h]
theorem cellsOf_one (bs : List UInt8) : ∀ u ∈ cellsOf bs, u.oneCell' = true := by
  intro u hu
  obtain ⟨_, _, rfl⟩ := List.mem_map.1 hu
  rfl

/-- The row at block g, one of the call's own (from B on), of capacity cap, holds the bytes bs; all its cells are there, none is frozen. -/
structure Own (B : Nat) (w : World) (g cap : Nat) (bs : List UInt8) : Prop where
  new : B ≤ g
  lt : g < w.heap.size
  le : bs.length ≤ cap
  holds : ∀ j, j < bs.length → w.cell? ⟨g, j, none⟩ = (cellsOf bs)[j]?
  there : ∀ j, j < cap → (w.cell? ⟨g, j, none⟩).isSome = true ∧ w.frozen? ⟨g, j, none⟩ = false

theorem Own.block {B : Nat} {w w' : World} {g cap : Nat} {bs : List UInt8} (h : Own B w g cap bs) (hs : w.heap.size ≤ w'.heap.size) (hb : w'.heap[g]? = w.heap[g]?) : Own B w' g cap bs :=
  ⟨h.new, Nat.lt_of_lt_of_le h.lt hs, h.le, fun j hj => (World.cell?_of_block (w := w) (a := ⟨g, j, none⟩) hb).trans (h.holds j hj),
    fun j hj => ⟨by rw [World.cell?_of_block (w := w) (a := ⟨g, j, none⟩) hb]; exact (h.there j hj).1, (World.frozen?_of_block (w := w) (a := ⟨g, j, none⟩) hb).trans (h.there j hj).2⟩⟩

/-- It stands behind whatever turns no block that was there. -/
theorem Own.below {B : Nat} {w w' : World} {g cap : Nat} {bs : List UInt8} (h : Own B w g cap bs) (hb : Below w.heap.size w w') : Own B w' g cap bs := h.block hb.size (hb.block g h.lt)

theorem Own.alloc {B : Nat} {w : World} {g cap : Nat} {bs : List UInt8} (h : Own B w g cap bs) (o : Obj) : Own B (w.alloc o) g cap bs := h.below ((Below.refl _ _).alloc (Nat.le_refl _) _)

theorem Own.grown {B : Nat} {w w' : World} {g cap : Nat} {bs : List UInt8} (h : Own B w g cap bs) {r : Option Nat} (hg : w.grownBy w' r) (hr : some g ≠ r) : Own B w' g cap bs := h.block hg.size (hg.block g h.lt hr)

theorem Own.mono {B B' : Nat} {w : World} {g cap : Nat} {bs : List UInt8} (h : Own B w g cap bs) (hB : B' ≤ B) : Own B' w g cap bs := ⟨Nat.le_trans hB h.new, h.lt, h.le, h.holds, h.there⟩

/-- The slice value v reads as the bytes bs. -/
def Reads (w : World) (v : Value) (bs : List UInt8) : Prop :=
  (v = .slice none 0 0 ∧ bs = []) ∨ ∃ a cap, v = .slice (some a) bs.length cap ∧ ∀ j, j < bs.length → w.cell? (a.add j) = (cellsOf bs)[j]?

theorem add_zero_plain (g j : Nat) : (⟨g, 0, none⟩ : Addr).add j = ⟨g, j, none⟩ := by unfold Addr.add; split <;> simp_all

theorem Own.reads {B : Nat} {w : World} {g cap : Nat} {bs : List UInt8} (h : Own B w g cap bs) : Reads w (.slice (some ⟨g, 0, none⟩) bs.length cap) bs :=
  .inr ⟨_, _, rfl, fun j hj => by rw [add_zero_plain]; exact h.holds j hj⟩

theorem Reads.below {w w' : World} {v : Value} {bs : List UInt8} (h : Reads w v bs) (hb : Below w.heap.size w w') : Reads w' v bs := by
  rcases h with h | ⟨a, cap, hv, hc⟩
  · exact .inl h
  · refine .inr ⟨a, cap, hv, fun j hj => ?_⟩
    have h1 := hc j hj
    have h2 : (w.cell? (a.add j)) = some (.int .u8 bs[j].toNat) := h1.trans (cellsOf_at bs j hj)
    rw [hb.cell (World.block_lt_of_cell? w _ h2)]
    exact h1

/-- As the source of an append. -/
theorem Reads.src {w : World} {a : Addr} {n cap : Nat} {bs : List UInt8} (hn : bs.length = n) (hc : ∀ j, j < bs.length → w.cell? (a.add j) = (cellsOf bs)[j]?) :
    Src Ybaf.prog 1 22 (.slice (some a) n cap) n (cellsOf bs) w :=
  Src.ofSlice w Ybaf.underlying22 a n cap (cellsOf bs) (by rw [cellsOf_length]; omega) (fun j u hu => by
    have hj : j < bs.length := by
      have := (List.getElem?_eq_some_iff.1 hu).1
      rwa [cellsOf_length] at this
    rw [hc j hj]; exact hu) (cellsOf_one bs)

theorem info5 : (Ybaf.prog.info? 5).map (fun i => (i.zero, i.size, i.bytes)) = some (some (.int .u8 0), 1, 1) := by kernel_rfl

theorem grown_setCell (w : World) (a : Addr) (u : Value) : w.grownBy (w.setCell a u) (some a.block) :=
  ⟨rfl, rfl, rfl, by simp, fun k _ hk => Below.heap_setCell w a u k (fun e => hk (by rw [e]))⟩

theorem grown_setCells (b : Nat) : ∀ (vs : List Value) (o : Nat) (w : World), w.grownBy (w.setCells b o vs) (some b)
  | [], _, _ => ⟨rfl, rfl, rfl, Nat.le_refl _, fun _ _ _ => rfl⟩
  | v :: r, o, w => (grown_setCell w ⟨b, o, none⟩ v).trans (grown_setCells b r (o + 1) _)

theorem size_setCells (b : Nat) : ∀ (vs : List Value) (o : Nat) (w : World), (w.setCells b o vs).heap.size = w.heap.size
  | [], _, _ => rfl
  | v :: r, o, w => by rw [World.setCells, size_setCells b r]; simp

/-- 'append' onto an own row. -/
theorem run_append_bytes {B : Nat} {w : World} {g cap : Nat} {bs : List UInt8} (h : Own B w g cap bs) (hB : B ≤ w.heap.size) (ty : TypeId) (xv : Value) (m : Nat) (ns : List UInt8) (hm : ns.length = m)
    (hs : Src Ybaf.prog 1 22 xv m (cellsOf ns) w) (hb : bs.length + m ≤ 1099511627776) :
    ∃ g' cap' w', (Builtin.append_ #[22, 22] ty #[.slice (some ⟨g, 0, none⟩) bs.length cap, xv]).run Ybaf.prog w = .ok (.slice (some ⟨g', 0, none⟩) (bs.length + m) cap') w' ∧
      Own B w' g' cap' (bs ++ ns) ∧ w.grownBy w' (some g) := by
  obtain ⟨i, hi, hz, hz1, hz2⟩ := info_parts info5
  have hs' : Src Ybaf.prog i.size 22 xv m (cellsOf ns) w := by rw [hz1]; exact hs
  have hle := h.le
  by_cases hroom : bs.length + m ≤ cap
  · have hrun := run_append_room_src (P := Ybaf.prog) w 22 22 ty 5 i Ybaf.underlying22 hi g 0 bs.length cap xv m (cellsOf ns) hs' hroom
      (fun j hj => by rw [cellsOf_length] at hj; rw [hz1, Nat.mul_one, Nat.zero_add]; exact (h.there _ (by omega)).1) (fun j hj => by rw [cellsOf_length] at hj; rw [hz1, Nat.mul_one, Nat.zero_add]; exact (h.there _ (by omega)).2)
    refine ⟨g, cap, _, hrun, ?_, grown_setCells g _ _ _⟩
    rw [hz1, Nat.mul_one, Nat.zero_add]
    have hin := World.cell?_setCells_in g (cellsOf ns) bs.length w (fun j hj => by rw [cellsOf_length] at hj; exact (h.there _ (by omega)).1)
    refine ⟨h.new, by rw [size_setCells]; exact h.lt, by simp; omega, fun j hj => ?_, fun j hj => ⟨?_, by rw [World.frozen?_setCells]; exact (h.there j hj).2⟩⟩
    · rw [cellsOf_append]
      by_cases hjb : j < bs.length
      · rw [World.cell?_setCells_out g _ _ _ _ (fun _ _ => .inl hjb), List.getElem?_append_left (by rw [cellsOf_length]; exact hjb)]
        exact h.holds j hjb
      · have hj2 : j - bs.length < (cellsOf ns).length := by rw [cellsOf_length]; simp at hj; omega
        have := hin (j - bs.length) hj2
        rw [show bs.length + (j - bs.length) = j from by omega] at this
        rw [this, List.getElem?_append_right (by rw [cellsOf_length]; omega), cellsOf_length, List.getElem?_eq_getElem hj2]
    · by_cases hjb : bs.length ≤ j ∧ j < bs.length + m
      · have hj2 : j - bs.length < (cellsOf ns).length := by rw [cellsOf_length]; omega
        have := hin (j - bs.length) hj2
        rw [show bs.length + (j - bs.length) = j from by omega] at this
        rw [this]; rfl
      · rw [World.cell?_setCells_out g _ _ _ _ (fun _ _ => by rw [cellsOf_length]; show j < _ ∨ _ ≤ j; omega)]
        exact (h.there j hj).1
  · have hold : (Builtin.firstCells i.size bs.length (.slice (some ⟨g, 0, none⟩) bs.length cap)).run Ybaf.prog w.drew = .ok (cellsOf bs).toArray w.drew :=
      run_firstCells_some w.drew i.size bs.length ⟨g, 0, none⟩ bs.length cap (cellsOf bs) (by rw [cellsOf_length, hz1]; omega) (fun j u hu => by
        have hj : j < bs.length := by
          have := (List.getElem?_eq_some_iff.1 hu).1
          rwa [cellsOf_length] at this
        rw [add_zero_plain]
        show w.cell? _ = _
        rw [h.holds j hj]; exact hu)
    have hrun := run_append_grow_src (P := Ybaf.prog) w 22 22 ty 5 i (.int .u8 0) Ybaf.underlying22 hi hz (some ⟨g, 0, none⟩) bs.length cap (cellsOf bs) hold xv m (cellsOf ns) hs' (by omega) (by omega) (growslice_fits (by omega) (by rw [hz2]; omega))
    have hge := grownCap_ge w (bs.length + m) cap 5
    refine ⟨w.heap.size, grownCap w (bs.length + m) cap 5, _, hrun, ?_, ?_⟩
    · have hcells : ∀ j, (w.drew.alloc (.cells ((cellsOf bs ++ cellsOf ns).toArray ++ Builtin.zeroCells (Value.int .u8 0).cells (grownCap w (bs.length + m) cap 5 - (bs.length + m))) 5)).cell? ⟨w.heap.size, j, none⟩ = ((cellsOf bs ++ cellsOf ns).toArray ++ Builtin.zeroCells (Value.int .u8 0).cells (grownCap w (bs.length + m) cap 5 - (bs.length + m)))[j]? := fun j => World.cell?_alloc_at (w := w.drew) _ _ _ _ rfl
      have hzl : (Builtin.zeroCells (Value.int .u8 0).cells (grownCap w (bs.length + m) cap 5 - (bs.length + m))).size = grownCap w (bs.length + m) cap 5 - (bs.length + m) := by simp [Builtin.zeroCells, Value.cells]
      refine ⟨hB, by simp, by simp; omega, fun j hj => ?_, fun j hj => ⟨?_, World.frozen?_alloc_at (w := w.drew) _ _ _ _ rfl⟩⟩
      · rw [hcells j, cellsOf_append, Array.getElem?_append_left (by simp [cellsOf_length]; simpa using hj)]
        simp
      · rw [hcells j, Array.getElem?_eq_getElem (by rw [Array.size_append, hzl]; simp [cellsOf_length]; omega)]
        rfl
    · exact ⟨rfl, rfl, rfl, by simp, fun k hk _ => Below.heap_alloc w.drew _ k hk⟩

theorem wpList_append_bytes (w : World) {ops : Array Oper} {rest : List Oper} {o : Oper} {a : Act} {Q : Exit → Act → World → Prop} (hgd : o.guard = none) (s x : Operand)
    (ho : o.op = .call { callee := .builtin .append, args := #[s, x], argTypes := #[22, 22] }) (B : Nat) (g cap n : Nat) (bs : List UInt8) (hn : bs.length = n)
    (hv : a.eval s = .slice (some ⟨g, 0, none⟩) n cap) (h : Own B w g cap bs) (hB : B ≤ w.heap.size) (xv : Value) (m : Nat) (ns : List UInt8) (hm : ns.length = m) (hx : a.eval x = xv)
    (hs : Src Ybaf.prog 1 22 xv m (cellsOf ns) w) (hb : n + m ≤ 1099511627776)
    (hK : ∀ g' cap' w', Own B w' g' cap' (bs ++ ns) → w.grownBy w' (some g) → wpList Ybaf.prog ops Q rest (a.put o.dst (.slice (some ⟨g', 0, none⟩) (n + m) cap')) w') : wpList Ybaf.prog ops Q (o :: rest) a w := by
  subst hn
  refine wpList_plain hgd fun K hK' => ?_
  obtain ⟨g', cap', w', hrun, h1, h2⟩ := run_append_bytes h hB o.type xv m ns hm hs hb
  unfold Oper.wp
  simp [execOp, ho, resolve, invoke, builtin, hv, hx, hrun, Result.andThen]
  exact hK' _ _ (hK g' cap' w' h1 h2)

end Go.Proofs.YbulkdieuFmt
