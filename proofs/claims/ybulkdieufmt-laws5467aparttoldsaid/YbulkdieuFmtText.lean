import Derived.Test.YbulkdieuFmtBytes
namespace Go.Proofs.YbulkdieuFmt
open Go.RowKit Go.Extern.Stop Go.Stop Go.Extern

set_option maxHeartbeats 400000 in
/-- 'headline': fmt's text. -/
theorem headline_any (F : Interp) (st : Int) (msg path : ByteArray) (sa : Option Addr) (sl sc : Nat) (w : World) (hF : F.told.answers w.tape) (hm : msg.size ≤ 1048576) (hw : (Lit.int .i64 st).wf = true) (t : List UInt8) (ht : Hid (head st msg.data.toList = t)) :
    Calls Ybaf.prog 6 #[.agg #[.int .i64 st, .string msg, .string path, .slice sa sl sc]] w fun e w' => e = .returned (.string ⟨t.toArray⟩) ∧ Below w.heap.size w w' := by
  obtain rfl := ht.out
  clear ht
  have hF' := answers_open hF
  have f1 := call7
  have f2 := guard
  have f3 := fmt0
  have f4 := fmt0r
  have f5 := op3_100
  have f6 := op9_115
  go_enter Ybaf.func6, Ybaf.ntmps6
  go_wp2
  go_ret
  refine ⟨congrArg (fun s => Ending.returned (.string s)) (told0 F st msg hm hw), ?_⟩
  exact (((Below.refl _ _).alloc (Nat.le_refl _) _).alloc (by simp) _).drew

/-- The block that '[]byte(s)' lays: the bytes, zeros up to the capacity; one place behind its last cell is marked. -/
def blk (s : ByteArray) (cap : Nat) : Obj := .cells (bytesRow s cap) 5 ((bytesRow s cap).size, (bytesRow s cap).size + 1)

theorem head_bound (st : Int) (msg : ByteArray) (hm : msg.size ≤ 1048576) (hw : (Lit.int .i64 st).wf = true) (t : List UInt8) (ht : Hid (head st msg.data.toList = t)) : t.length ≤ 2097152 := by
  have hml : msg.data.toList.length = msg.size := by rw [Array.length_toList]; rfl
  have hlen := head_length st msg.data.toList hw
  rw [ht.out] at hlen
  omega

theorem own_conv (B : Nat) (w : World) (s : ByteArray) (hB : B ≤ w.heap.size) (cap : Nat) (hcap : s.size ≤ cap) : Own B (w.alloc (blk s cap)) w.heap.size cap s.data.toList := by
  have hl : s.data.toList.length = s.size := by rw [Array.length_toList]; rfl
  have hsz : (bytesRow s cap).size = cap := by
    have : s.data.size = s.size := rfl
    simp [bytesRow]; omega
  have hh : (w.alloc (blk s cap)).heap[w.heap.size]? = some (.cells (bytesRow s cap) 5 ((bytesRow s cap).size, (bytesRow s cap).size + 1)) := heap_alloc_new _ _
  have hcell : ∀ j, (w.alloc (blk s cap)).cell? ⟨w.heap.size, j, none⟩ = (bytesRow s cap)[j]? := fun j => World.cell?_alloc_mark _ _ _ _ _
  refine ⟨hB, by simp, by omega, fun j hj => ?_, fun j hj => ⟨?_, ?_⟩⟩
  · rw [hcell, bytesRow, Array.getElem?_append_left (by simpa using hj), cellsOf_at _ _ hj]
    simp at hj ⊢
    simp [hj]
  · rw [hcell, Array.getElem?_eq_getElem (by omega)]; rfl
  · unfold World.frozen?
    rw [hh]
    simp
    omega

/-- fmt's text with the newline behind it: what the walks hold of it. -/
theorem line_size (t : List UInt8) : (⟨t.toArray⟩ ++ ⟨#[10]⟩ : ByteArray).size = t.length + 1 := by
  have hs1 : (⟨t.toArray⟩ : ByteArray).size = t.length := by show t.toArray.size = _; simp
  have hs2 : (⟨#[10]⟩ : ByteArray).size = 1 := rfl
  rw [ByteArray.size_append, hs1, hs2]
theorem line_list (t : List UInt8) : (⟨t.toArray⟩ ++ ⟨#[10]⟩ : ByteArray).data.toList = t ++ [10] := by simp [ByteArray.data_append]
theorem line_conv (t : List UInt8) (w : World) : (convert 9 22 (.string (⟨t.toArray⟩ ++ ⟨#[10]⟩))).run Ybaf.prog w =
    .ok (.slice (some ⟨w.heap.size, 0, none⟩) (t.length + 1) (grownCap w (t.length + 1) 0 5)) (w.drew.alloc (blk (⟨t.toArray⟩ ++ ⟨#[10]⟩) (grownCap w (t.length + 1) 0 5))) := by
  have h := run_bytes_of_string (P := Ybaf.prog) w 9 22 5 (⟨t.toArray⟩ ++ ⟨#[10]⟩) Ybaf.underlying9 Ybaf.underlying22 Ybaf.underlying5
  rw [line_size] at h
  exact h
theorem own_line (B : Nat) (t : List UInt8) (w : World) (hB : B ≤ w.heap.size) : Own B (w.alloc (blk (⟨t.toArray⟩ ++ ⟨#[10]⟩) (grownCap w (t.length + 1) 0 5))) w.heap.size (grownCap w (t.length + 1) 0 5) (t ++ [10]) := by
  have h := own_conv B w (⟨t.toArray⟩ ++ ⟨#[10]⟩) hB (grownCap w (t.length + 1) 0 5) (by rw [line_size]; exact grownCap_ge _ _ _ _)
  rw [line_list] at h
  exact h

set_option maxHeartbeats 400000 in
/-- 'textBody' without a stack. -/
theorem text_nil (F : Interp) (st : Int) (msg path : ByteArray) (w : World) (hF : F.told.answers w.tape) (hm : msg.size ≤ 1048576) (hw : (Lit.int .i64 st).wf = true) (t : List UInt8) (ht : Hid (head st msg.data.toList = t)) :
    Calls Ybaf.prog 4 #[.agg #[.int .i64 st, .string msg, .string path, .slice none 0 0]] w fun e w' => ∃ g cap, e = .returned (.slice (some ⟨g, 0, none⟩) (t.length + 1) cap) ∧
      Own w.heap.size w' g cap (t ++ [10]) ∧ Below w.heap.size w w' := by
  have htl := head_bound st msg hm hw t ht
  have hconv := line_conv t
  have hneq := fun (w : World) (a : Option Addr) (n c : Nat) => run_neq_slice_nil_any (P := Ybaf.prog) w 22 5 a n c 0 0 Ybaf.underlying22
  go_enter Ybaf.func4, Ybaf.ntmps4
  go_wp2_with fail
  refine (headline_any F st msg path none 0 0 _ (by exact hF) hm hw t ht).mono ?_
  rintro e w1 ⟨rfl, hb⟩
  have hc3 : ∀ o, (w1.alloc o).cell? ⟨w.heap.size, 3, none⟩ = some (.slice none 0 0) := fun o => by
    rw [World.cell?_alloc_past _ _ _ (by have := hb.size; simp at this; omega), hb.cell (p := ⟨w.heap.size, 3, none⟩) (by simp)]; simp
  go_wp2
  go_ret
  have hbw : Below w.heap.size w w1 := ((Below.refl _ _).alloc (Nat.le_refl _) _).trans (hb.mono (by simp))
  exact ⟨_, _, rfl, (own_line w.heap.size t w1 hbw.size).below (Below.refl _ _).drew, (hbw.alloc hbw.size _).drew⟩
set_option maxHeartbeats 400000 in
/-- 'textBody' with a stack: whatever address, any number of bytes. -/
theorem text_some (F : Interp) (st : Int) (msg path : ByteArray) (x : Addr) (m c : Nat) (bs : List UInt8) (hbm : bs.length = m) (hm1 : m ≤ 1048576) (w : World) (hcs : ∀ j, j < bs.length → w.cell? (x.add j) = (cellsOf bs)[j]?)
    (hF : F.told.answers w.tape) (hm : msg.size ≤ 1048576) (hw : (Lit.int .i64 st).wf = true) (t : List UInt8) (ht : Hid (head st msg.data.toList = t)) :
    Calls Ybaf.prog 4 #[.agg #[.int .i64 st, .string msg, .string path, .slice (some x) m c]] w fun e w' => ∃ g cap, e = .returned (.slice (some ⟨g, 0, none⟩) (t.length + 1 + 1 + m) cap) ∧
      Own w.heap.size w' g cap (t ++ [10] ++ [10] ++ bs) ∧ Below w.heap.size w w' := by
  have htl := head_bound st msg hm hw t ht
  have hconv := line_conv t
  have hneq := fun (w : World) (a : Option Addr) (n c : Nat) => run_neq_slice_nil_any (P := Ybaf.prog) w 22 5 a n c 0 0 Ybaf.underlying22
  have HC : Hid (∀ j, j < bs.length → w.cell? (x.add j) = (cellsOf bs)[j]?) := hcs
  clear hcs
  have Hbm : Hid (bs.length = m) := hbm
  clear hbm
  go_enter Ybaf.func4, Ybaf.ntmps4
  go_wp2_with fail
  refine (headline_any F st msg path (some x) m c _ (by exact hF) hm hw t ht).mono ?_
  rintro e w1 ⟨rfl, hb⟩
  have hsz1 : w.heap.size + 1 ≤ w1.heap.size := by have := hb.size; simpa using this
  have hc3 : ∀ o, (w1.alloc o).cell? ⟨w.heap.size, 3, none⟩ = some (.slice (some x) m c) := fun o => by
    rw [World.cell?_alloc_past _ _ _ (by omega), hb.cell (p := ⟨w.heap.size, 3, none⟩) (by simp)]; simp
  have hbw : Below (w.heap.size + 1) (w.alloc (.cells #[.int .i64 st, .string msg, .string path, .slice (some x) m c] 25)) w1 := hb.mono (by simp)
  have hown1 := own_line (w.heap.size + 1) t w1 hsz1
  have Hown1 : Hid (Own (w.heap.size + 1) (w1.alloc (blk (⟨t.toArray⟩ ++ ⟨#[10]⟩) (grownCap w1 (t.length + 1) 0 5))) w1.heap.size (grownCap w1 (t.length + 1) 0 5) (t ++ [10])) := hown1
  clear hown1
  go_wp2_with (first | (at_builtin; refine wpList_append_bytes _ rfl (.tmp 11) (.tmp 12) rfl (w.heap.size + 1) w1.heap.size (grownCap w1 (t.length + 1) 0 5) (t.length + 1) (t ++ [10]) (by simp) rfl ?h1 ?hB1 (.slice (some ⟨w1.heap.size + 1, 0, none⟩) 1 1) 1 [10] rfl rfl ?hs1 ?hb1 ?_))
  case h1 => exact (Hown1.out.alloc _).below (Below.refl _ _).drew
  case hB1 => simp; omega
  case hs1 => exact Reads.src (bs := [10]) rfl (fun j hj => by
    obtain rfl : j = 0 := by simp at hj; omega
    rw [add_zero_plain]; simp [cellsOf])
  case hb1 => omega
  · intro g2 cap2 w2 hown2 hgr2
    have hbel1 : Below w.heap.size w w1 := ((Below.refl _ _).alloc (Nat.le_refl _) _).trans (hbw.mono (by omega))
    have hbel2 : Below w.heap.size w w2 := ((((hbel1.alloc hbel1.size _).alloc (by simp; omega) _).drew).grown hgr2 (by simp; omega) (fun k e => by cases e; omega))
    have hc3b : w2.cell? ⟨w.heap.size, 3, none⟩ = some (.slice (some x) m c) := hgr2.cell (by
      show ((w1.alloc _).alloc _).cell? _ = _
      rw [World.cell?_alloc_past _ _ _ (by simp; omega)]; exact hc3 _) (by simp; omega)
    have Hs2 : Hid (Src Ybaf.prog 1 22 (.slice (some x) m c) m (cellsOf bs) w2) := Reads.src Hbm.out (fun j hj => by
      have h1 := HC.out j hj
      rw [hbel2.cell (World.block_lt_of_cell? w _ (h1.trans (cellsOf_at bs j hj)))]; exact h1)
    have Hown2 : Hid (Own (w.heap.size + 1) w2 g2 cap2 (t ++ [10, 10])) := hown2
    have Hsz2 : Hid (w.heap.size + 1 ≤ w2.heap.size) := by have := hgr2.size; simp at this; show _ ≤ _; omega
    clear hgr2 hown2 hc3 hbw hb Hown1
    go_wp2_with (first | (at_builtin; refine wpList_append_bytes _ rfl (.tmp 14) (.tmp 16) rfl (w.heap.size + 1) g2 cap2 (t.length + 1 + 1) (t ++ [10, 10]) (by simp) rfl ?h2 ?hB2 (.slice (some x) m c) m bs Hbm.out rfl ?hs2 ?hb2 ?_))
    case h2 => exact Hown2.out
    case hB2 => exact Hsz2.out
    case hs2 => exact Hs2.out
    case hb2 => omega
    · intro g3 cap3 w3 hown3 hgr3
      have hbel3 : Below w.heap.size w w3 := hbel2.grown hgr3 (by have := Hsz2.out; omega) (fun k e => by cases e; have := Hown2.out.new; omega)
      have Hown3 : Hid (Own (w.heap.size + 1) w3 g3 cap3 (t ++ [10, 10] ++ bs)) := by simpa [Hid] using hown3
      clear hgr3 hown3
      go_wp2
      go_ret
      refine ⟨g3, cap3, rfl, ?_, hbel3⟩
      have := Hown3.out.mono (B' := w.heap.size) (by omega)
      simpa using this
end Go.Proofs.YbulkdieuFmt
