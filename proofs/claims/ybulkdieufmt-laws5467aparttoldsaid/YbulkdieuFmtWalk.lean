import Derived.Test.YbulkdieuFmtText
import Derived.Deep.OwnRows
import Derived.Deep.Cut
import Derived.Deep.CutRange
import Derived.Deep.DeepCutAuto
namespace Go.Proofs.YbulkdieuFmt
open Go.RowKit Go.Extern.Stop Go.Stop Go.Extern

theorem Reads.conv {w : World} {v : Value} {bs : List UInt8} (h : Reads w v bs) : (convert 22 9 v).run Ybaf.prog w = .ok (.string ⟨bs.toArray⟩) w := by
  rcases h with ⟨rfl, rfl⟩ | ⟨a, cap, rfl, hc⟩
  · exact run_convert_bytes_nil w 22 5 Ybaf.underlying22 Ybaf.underlying5 0 0 9 Ybaf.underlying9
  · exact run_convert_bytes_back w 22 9 5 a cap bs Ybaf.underlying22 Ybaf.underlying5 Ybaf.underlying9 (fun j hj => by rw [hc j hj, cellsOf_at _ _ hj])

/-- 'bytes.Equal' of two slices that read the same. -/
theorem equal_same (w : World) (v1 v2 : Value) (bs : List UInt8) (h1 : Reads w v1 bs) (h2 : Reads w v2 bs) :
    Calls Ybaf.prog 5 #[v1, v2] w fun e w' => e = .returned (.bool true) ∧ w = w' := by
  have c1 := h1.conv
  have c2 := h2.conv
  clear h1 h2
  go_enter Ybaf.func5, Ybaf.ntmps5
  go_wp2
  go_ret
  exact ⟨rfl, rfl⟩

theorem size5 : (Ybaf.prog.info? 5).map (·.size) = some 1 := by kernel_rfl

theorem Own.reads' {B : Nat} {w : World} {g cap n : Nat} {bs : List UInt8} (h : Own B w g cap bs) (hn : bs.length = n) : Reads w (.slice (some ⟨g, 0, none⟩) n cap) bs := by
  subst hn; exact h.reads

theorem Own.src {B : Nat} {w : World} {g cap n c : Nat} {bs : List UInt8} (h : Own B w g cap bs) (hn : bs.length = n) : Src Ybaf.prog 1 22 (.slice (some ⟨g, 0, none⟩) n c) n (cellsOf bs) w :=
  Reads.src hn fun j hj => by rw [add_zero_plain]; exact h.holds j hj

theorem splice_all (m : Nat) (z : Value) (cs : List Value) (h : cs.length = m) : splice (List.replicate m z) 0 cs = cs := by
  simp [splice, h]

theorem made_list (m : Nat) (z : Value) : madeCells #[z] m = (List.replicate m z).toArray := by
  apply Array.ext'
  rw [toList_madeCells_one]

/-- The copy of the stack. -/
theorem own_copy {B : Nat} {w : World} {m : Nat} {bs : List UInt8} (hbm : bs.length = m) (h : w.heap[B]? = some (.cells (splice (List.replicate m (.int .u8 0)) 0 (cellsOf bs)).toArray 5 (0, 0))) : Own B w B m bs := by
  rw [splice_all m _ _ (by rw [cellsOf_length]; exact hbm)] at h
  have hlt : B < w.heap.size := by
    rcases Nat.lt_or_ge B w.heap.size with h' | h'
    · exact h'
    · rw [Array.getElem?_eq_none h'] at h; cases h
  have hc : ∀ j, w.cell? ⟨B, j, none⟩ = (cellsOf bs)[j]? := fun j => by
    unfold World.cell?
    rw [h]
    simp
  refine ⟨Nat.le_refl _, hlt, by omega, fun j _ => hc j, fun j hj => ⟨?_, ?_⟩⟩
  · rw [hc, cellsOf_at bs j (by omega)]; rfl
  · unfold World.frozen?
    rw [h]
    simp

/-- A row that 'make([]byte, 0, n)' has laid. -/
theorem own_made {B : Nat} {w : World} {g n : Nat} (hown : w.ownsRow B 5 1 (.slice (some ⟨g, 0, none⟩) 0 n) 0 []) : Own B w g n [] := by
  obtain ⟨_, hv | ⟨g', cap, cur, hv, hBg, hcur, _, _, hsz, _⟩⟩ := hown
  · simp at hv
  · simp only [Value.slice.injEq, Option.some.injEq, Addr.mk.injEq] at hv
    obtain ⟨⟨rfl, _⟩, _, rfl⟩ := hv
    have hlt : g < w.heap.size := by
      rcases Nat.lt_or_ge g w.heap.size with h' | h'
      · exact h'
      · rw [Array.getElem?_eq_none h'] at hcur; cases hcur
    refine ⟨hBg, hlt, Nat.zero_le _, fun j hj => absurd hj (Nat.not_lt_zero _), fun j hj => ⟨?_, ?_⟩⟩
    · unfold World.cell?
      rw [hcur]
      simp
      omega
    · unfold World.frozen?
      rw [hcur]
      simp

/-- THE STATE OF THE LAST LOOP: it writes into the row at g alone. -/
structure Zer (B : Nat) (w w9 wr : World) (g N : Nat) : Prop where
  other : ∀ b, b ≠ g → wr.heap[b]? = w9.heap[b]?
  size : wr.heap.size = w9.heap.size
  there : ∀ j, j < N → (wr.cell? ⟨g, j, none⟩).isSome = true ∧ wr.frozen? ⟨g, j, none⟩ = false
  below : Below B w wr

theorem Zer.step {B : Nat} {w w9 wr : World} {g N : Nat} (h : Zer B w w9 wr g N) (hB : B ≤ g) (k : Nat) (u : Value) : Zer B w w9 (wr.setCell ⟨g, k, none⟩ u) g N := by
  refine ⟨fun b hb => (Below.heap_setCell _ _ _ _ hb).trans (h.other b hb), by simpa using h.size, fun j hj => ⟨?_, by simpa using (h.there j hj).2⟩, h.below.setCell hB u⟩
  obtain ⟨v, hv⟩ := Option.isSome_iff_exists.1 (h.there j hj).1
  obtain ⟨v', hv'⟩ := cell?_setCell_some (w := wr) (p := ⟨g, k, none⟩) (x := u) hv
  rw [hv']; rfl

set_option maxRecDepth 100000 in
set_option maxHeartbeats 4000000 in
/-- THE LAW's WALK, the stack not nil. -/
theorem walk_some (F : Interp) (st : Int) (msg path : ByteArray) (x : Addr) (m c : Nat) (bs : List UInt8) (hbm : bs.length = m) (w : World) (hcs : ∀ j, j < bs.length → w.cell? (x.add j) = (cellsOf bs)[j]?)
    (hF : F.told.answers w.tape) (hw : (Lit.int .i64 st).wf = true) (hm1 : m ≤ 1048576) (hm : msg.size ≤ 1048576) (hp : path.size ≤ 1048576) :
    Calls Ybaf.prog 3 #[.int .i64 st, .string msg, .string path, .slice (some x) m c] w fun e w' => e = .returned (.bool true) ∧ Below w.heap.size w w' := by
  have hneq := fun (w : World) (a : Option Addr) (n c : Nat) => run_neq_slice_nil_any (P := Ybaf.prog) w 22 5 a n c 0 0 Ybaf.underlying22
  have heql := fun (w : World) (a : Option Addr) (n c : Nat) => Lib.run_eql_slice_nil (P := Ybaf.prog) w 22 5 a n c 0 0 Ybaf.underlying22
  have hmk := fun w => run_make_row' (P := Ybaf.prog) 22 5 (.int .u8 0) 1 Ybaf.underlying22 info5 rfl .i64 .i64 m (by omega) (by omega) w
  obtain ⟨t, ht⟩ : ∃ t, Hid (head st msg.data.toList = t) := ⟨_, rfl⟩
  have htl := head_bound st msg hm hw t ht
  have HR : Hid (Reads w (.slice (some x) m c) bs) := .inr ⟨x, c, by rw [hbm], hcs⟩
  have HC : Hid (∀ j, j < bs.length → w.cell? (x.add j) = (cellsOf bs)[j]?) := hcs
  clear hcs
  have Hbm : Hid (bs.length = m) := hbm
  clear hbm
  go_enter Ybaf.func3, Ybaf.ntmps3
  have HG0 : Hid ((w.alloc (.cells (madeCells #[.int .u8 0] m) 5)).heap[w.heap.size]? = some (.cells (List.replicate m (.int .u8 0)).toArray 5 (0, 0))) := by
    show _ = _
    rw [← made_list]; exact heap_alloc_new _ _
  have HC2 : Hid (∀ (j : Nat) (v : Value), (cellsOf bs)[j]? = some v → (w.alloc (.cells (madeCells #[.int .u8 0] m) 5)).cell? (x.add j) = some v) := fun j v hj => by
    have hjl : j < bs.length := by
      have := (List.getElem?_eq_some_iff.1 hj).1
      rwa [cellsOf_length] at this
    have h1 := HC.out j hjl
    have h2 := World.block_lt_of_cell? w _ (h1.trans (cellsOf_at bs j hjl))
    rw [World.cell?_alloc_lt _ _ _ h2, h1]; exact hj
  have Hc1 : Hid ((cellsOf bs).length = Nat.min m m) := by show _ = _; rw [cellsOf_length, Hbm.out]; exact (Nat.min_self m).symm
  have Hc3 : Hid (0 + (cellsOf bs).length ≤ (List.replicate m (Value.int .u8 0)).length) := by show _ ≤ _; rw [cellsOf_length, Hbm.out]; simp
  go_upto_region 6 with fail
  go_wp2_with (first | (refine wpList_copy_splice rfl (.tmp 33) (.tmp 34) 22 22 rfl 5 Ybaf.underlying22 size5 (some ⟨w.heap.size, 0, none⟩) (some x) m m m c rfl rfl w.heap.size 0 (List.replicate m (.int .u8 0)) 5 HG0.out (cellsOf bs) Hc1.out (fun _ => ⟨rfl, x, rfl, HC2.out⟩) Hc3.out (cellsOf_one bs) w.heap.size w ((Below.refl _ _).alloc (Nat.le_refl _) _) (Nat.le_refl _) ?_))
  intro w2 HG2 hb2
  have Hcp : Hid (Own w.heap.size w2 w.heap.size m bs) := own_copy Hbm.out HG2.out
  clear HG2 HG0 HC2 Hc1 Hc3
  have hF2 : F.told.answers w2.tape := by rw [hb2.tape]; exact hF
  go_wp2_with fail
  refine (text_nil F st msg path _ hF2 hm hw t ht).mono ?_
  rintro e w3 ⟨g1, cap1, rfl, hown1, hb3⟩
  have hbw3 : Below w.heap.size w w3 := hb2.trans (hb3.mono hb2.size)
  have Hcp3 : Hid (Own w.heap.size w3 w.heap.size m bs) := Hcp.out.below hb3
  clear Hcp
  have hF3 : F.told.answers w3.tape := by rw [hb3.tape]; exact hF2
  have Hown1 : Hid (Own w.heap.size w3 g1 cap1 (t ++ [10])) := hown1.mono hb2.size
  clear hF2 hown1 hb3 hb2
  go_wp2_with fail
  refine (text_nil F st msg ⟨#[]⟩ _ hF3 hm hw t ht).mono ?_
  rintro e w4 ⟨g2, cap2, rfl, hown2, hb4⟩
  have hbw4 : Below w.heap.size w w4 := hbw3.trans (hb4.mono hbw3.size)
  have Hcp4 : Hid (Own w.heap.size w4 w.heap.size m bs) := Hcp3.out.below hb4
  have Hown1b : Hid (Own w.heap.size w4 g1 cap1 (t ++ [10])) := Hown1.out.below hb4
  have hF4 : F.told.answers w4.tape := by rw [hb4.tape]; exact hF3
  have Hr1 : Hid (Reads w4 (.slice (some ⟨g1, 0, none⟩) (t.length + 1) cap1) (t ++ [10])) := Hown1b.out.reads' (by simp)
  have Hr2 : Hid (Reads w4 (.slice (some ⟨g2, 0, none⟩) (t.length + 1) cap2) (t ++ [10])) := hown2.reads' (by simp)
  have hl10 : w4.cell? ⟨g1, t.length, none⟩ = some (.int .u8 10) := by rw [Hown1b.out.holds t.length (by simp), cellsOf_at _ _ (by simp)]; simp
  clear Hcp3 Hown1 hF3 hown2 hb4 hbw3
  go_wp2_with fail
  refine (equal_same w4 _ _ (t ++ [10]) Hr1.out Hr2.out).mono ?_
  rintro e w' ⟨rfl, rfl⟩
  go_wp2_with fail
  have Hcs4 : Hid (∀ j, j < bs.length → w4.cell? (x.add j) = (cellsOf bs)[j]?) := fun j hj => by
    have h1 := HC.out j hj
    rw [hbw4.cell (World.block_lt_of_cell? w _ (h1.trans (cellsOf_at bs j hj)))]; exact h1
  refine (text_some F st msg path x m c bs Hbm.out hm1 w4 Hcs4.out hF4 hm hw t ht).mono ?_
  rintro e w5 ⟨g3, cap3, rfl, hown3, hb5⟩
  have hbw5 : Below w.heap.size w w5 := hbw4.trans (hb5.mono hbw4.size)
  have Hcp5 : Hid (Own w.heap.size w5 w.heap.size m bs) := Hcp4.out.below hb5
  have Hown1c : Hid (Own w.heap.size w5 g1 cap1 (t ++ [10])) := Hown1b.out.below hb5
  have Hown3 : Hid (Own (w.heap.size + 1) w5 g3 cap3 (t ++ [10] ++ [10] ++ bs)) := hown3.mono (by have := Hcp4.out.lt; omega)
  clear Hcp4 Hown1b hF4 Hr1 Hr2 hl10 hown3 hb5 Hcs4 hbw4
  obtain ⟨i5, hi5, hz50, hz51, hz52⟩ := info_parts info5
  go_wp2_with (first | (at_make; refine wpList_make_own _ rfl _ _ 22 rfl w5.heap.size 5 i5 (.int .u8 0) 1 Ybaf.underlying22 hi5 hz50 hz51 .i64 .i64 _ (t.length + 1 + m + 1) rfl rfl ?e1 ?e2 ?e3 ?e4 ?_))
  case e1 => omega
  case e2 => rw [hz52]; omega
  case e3 => unfold maxLen; omega
  case e4 => exact Nat.le_refl _
  intro w6 hown6 hgr6
  have Hw6 : Hid (Own w5.heap.size w6 w5.heap.size (t.length + 1 + m + 1) []) := own_made hown6
  have Hk6 : Hid (Below w5.heap.size w5 w6) := (Below.refl _ _).grown hgr6 (Nat.le_refl _) (fun k e => by cases e)
  clear hown6 hgr6 hi5 hz50 hz51 hz52
  have Hs6 : Hid (Src Ybaf.prog 1 22 (.slice (some ⟨g1, 0, none⟩) (t.length + 1) cap1) (t.length + 1) (cellsOf (t ++ [10])) w6) := (Hown1c.out.below Hk6.out).src (by simp)
  go_wp2_with (first | (at_builtin; refine wpList_append_bytes _ rfl (.tmp 74) (.tmp 75) rfl w5.heap.size w5.heap.size (t.length + 1 + m + 1) 0 [] rfl rfl Hw6.out Hk6.out.size (.slice (some ⟨g1, 0, none⟩) (t.length + 1) cap1) (t.length + 1) (t ++ [10]) (by simp) rfl Hs6.out (by omega) ?_))
  intro g4 cap4 w7 hown7 hgr7
  have Hw7 : Hid (Own w5.heap.size w7 g4 cap4 (t ++ [10])) := by simpa [Hid] using hown7
  have Hk7 : Hid (Below w5.heap.size w5 w7) := Hk6.out.grown hgr7 Hk6.out.size (fun k e => by cases e; exact Hw6.out.new)
  clear hown7 hgr7 Hs6 Hw6 Hk6
  have Hw7a : Hid (∀ o, Own w5.heap.size (w7.alloc o) g4 cap4 (t ++ [10])) := fun o => Hw7.out.alloc o
  have Hs7 : Hid (Src Ybaf.prog 1 22 (.slice (some ⟨w7.heap.size, 0, none⟩) 1 1) 1 (cellsOf [10]) (w7.alloc (.cells #[.int .u8 10] 5))) := Reads.src (bs := [10]) rfl (fun j hj => by
    obtain rfl : j = 0 := by simp at hj; omega
    rw [add_zero_plain]; simp [cellsOf])
  have Hz7 : Hid (∀ o, w5.heap.size ≤ (w7.alloc o).heap.size) := fun o => by have := Hk7.out.size; simp; omega
  go_wp2_with (first | (at_builtin; refine wpList_append_bytes _ rfl (.tmp 79) (.tmp 80) rfl w5.heap.size g4 cap4 (t.length + 1) (t ++ [10]) (by simp) rfl (Hw7a.out _) (Hz7.out _) (.slice (some ⟨w7.heap.size, 0, none⟩) 1 1) 1 [10] rfl rfl Hs7.out (by omega) ?_))
  intro g5 cap5 w8 hown8 hgr8
  have Hw8 : Hid (Own w5.heap.size w8 g5 cap5 (t ++ [10, 10])) := by simpa [Hid] using hown8
  have Hk8 : Hid (Below w5.heap.size w5 w8) := (Hk7.out.alloc Hk7.out.size _).grown hgr8 (Hz7.out _) (fun k e => by cases e; exact Hw7.out.new)
  clear hown8 hgr8 Hs7 Hw7 Hw7a Hk7 Hz7
  have Hs8 : Hid (Src Ybaf.prog 1 22 (.slice (some ⟨w.heap.size, 0, none⟩) m m) m (cellsOf bs) w8) := (Hcp5.out.below Hk8.out).src Hbm.out
  go_wp2_with (first | (at_builtin; refine wpList_append_bytes _ rfl (.tmp 82) (.tmp 83) rfl w5.heap.size g5 cap5 (t.length + 1 + 1) (t ++ [10, 10]) (by simp) rfl Hw8.out Hk8.out.size (.slice (some ⟨w.heap.size, 0, none⟩) m m) m bs Hbm.out rfl Hs8.out (by omega) ?_))
  intro g6 cap6 w9 hown9 hgr9
  have Hw9 : Hid (Own w5.heap.size w9 g6 cap6 (t ++ [10] ++ [10] ++ bs)) := by simpa [Hid] using hown9
  have Hk9 : Hid (Below w5.heap.size w5 w9) := Hk8.out.grown hgr9 Hk8.out.size (fun k e => by cases e; exact Hw8.out.new)
  clear hown9 hgr9 Hs8 Hw8 Hk8
  have hbw9 : Below w.heap.size w w9 := hbw5.trans (Hk9.out.mono hbw5.size)
  have Hcp9 : Hid (Own w.heap.size w9 w.heap.size m bs) := Hcp5.out.below Hk9.out
  have Hown9 : Hid (Own (w.heap.size + 1) w9 g3 cap3 (t ++ [10] ++ [10] ++ bs)) := Hown3.out.below Hk9.out
  have Hr3 : Hid (Reads w9 (.slice (some ⟨g3, 0, none⟩) (t.length + 1 + 1 + m) cap3) (t ++ [10] ++ [10] ++ bs)) := Hown9.out.reads' (by simp [Hbm.out]; omega)
  have Hr6 : Hid (Reads w9 (.slice (some ⟨g6, 0, none⟩) (t.length + 1 + 1 + m) cap6) (t ++ [10] ++ [10] ++ bs)) := Hw9.out.reads' (by simp [Hbm.out]; omega)
  have Hrc : Hid (Reads w9 (.slice (some ⟨w.heap.size, 0, none⟩) m m) bs) := Hcp9.out.reads' Hbm.out
  have Hrs : Hid (Reads w9 (.slice (some x) m c) bs) := HR.out.below hbw9
  clear Hown1c Hown3 Hcp5 Hk9 Hw9 hbw5
  go_wp2_with fail
  refine (equal_same w9 _ _ (t ++ [10] ++ [10] ++ bs) Hr3.out Hr6.out).mono ?_
  rintro e w' ⟨rfl, rfl⟩
  go_wp2_with fail
  refine (equal_same w9 _ _ bs Hrs.out Hrc.out).mono ?_
  rintro e w' ⟨rfl, rfl⟩
  clear Hr3 Hr6 Hrs Hrc
  have Hz : Hid (Zer w.heap.size w w9 w9 g3 (t.length + 1 + 1 + m)) := ⟨fun _ _ => rfl, rfl, fun j hj => Hown9.out.there j (by have := Hown9.out.le; simp [Hbm.out] at this; omega), hbw9⟩
  have Hg3 : Hid (w.heap.size + 1 ≤ g3) := Hown9.out.new
  clear Hown9 hbw9
  go_wp2
  go_loopw [14] (fun iv wr => ∃ k : Nat, k ≤ t.length + 1 + 1 + m ∧ iv = .int .i64 k ∧ Hid (Zer w.heap.size w w9 wr g3 (t.length + 1 + 1 + m))) (fun iv _ => t.length + 1 + 1 + m - (intOf iv).toNat)
  case atStart => exact ⟨0, Nat.zero_le _, rfl, Hz⟩
  case round =>
    obtain ⟨k, hk, rfl, hZ⟩ := hrel
    clear Hz
    by_cases hkn : k < t.length + 1 + 1 + m
    · obtain ⟨u, hu⟩ := Option.isSome_iff_exists.1 (hZ.out.there k hkn).1
      have hfz := (hZ.out.there k hkn).2
      go_wp2
      go_roundw
      case rel => exact ⟨k + 1, by omega, by go_num, hZ.out.step (by have := Hg3.out; omega) k _⟩
      case measure => simp [intOf]; omega
    · have Hrs : Hid (Reads wr (.slice (some x) m c) bs) := HR.out.below hZ.out.below
      have Hrc : Hid (Reads wr (.slice (some ⟨w.heap.size, 0, none⟩) m m) bs) := (Hcp9.out.block (Nat.le_of_eq hZ.out.size.symm) (hZ.out.other _ (by have := Hg3.out; omega))).reads' Hbm.out
      go_wp2_with fail
      refine (equal_same wr _ _ bs Hrs.out Hrc.out).mono ?_
      rintro e w' ⟨rfl, rfl⟩
      go_wp2
      go_ret
      exact ⟨rfl, hZ.out.below⟩

set_option maxRecDepth 100000 in
set_option maxHeartbeats 4000000 in
/-- THE LAW's WALK, the stack nil. -/
theorem walk_nil (F : Interp) (st : Int) (msg path : ByteArray) (w : World)
    (hF : F.told.answers w.tape) (hw : (Lit.int .i64 st).wf = true) (hm : msg.size ≤ 1048576) (hp : path.size ≤ 1048576) :
    Calls Ybaf.prog 3 #[.int .i64 st, .string msg, .string path, .slice none 0 0] w fun e w' => e = .returned (.bool true) ∧ Below w.heap.size w w' := by
  have hneq := fun (w : World) (a : Option Addr) (n c : Nat) => run_neq_slice_nil_any (P := Ybaf.prog) w 22 5 a n c 0 0 Ybaf.underlying22
  have heql := fun (w : World) (a : Option Addr) (n c : Nat) => Lib.run_eql_slice_nil (P := Ybaf.prog) w 22 5 a n c 0 0 Ybaf.underlying22
  obtain ⟨t, ht⟩ : ∃ t, Hid (head st msg.data.toList = t) := ⟨_, rfl⟩
  have htl := head_bound st msg hm hw t ht
  have Hrn : Hid (∀ wx : World, Reads wx (.slice none 0 0) []) := fun _ => .inl ⟨rfl, rfl⟩
  go_enter Ybaf.func3, Ybaf.ntmps3
  go_wp2_with fail
  refine (text_nil F st msg path _ hF hm hw t ht).mono ?_
  rintro e w3 ⟨g1, cap1, rfl, hown1, hbw3⟩
  have hF3 : F.told.answers w3.tape := by rw [hbw3.tape]; exact hF
  have Hown1 : Hid (Own w.heap.size w3 g1 cap1 (t ++ [10])) := hown1
  clear hown1
  go_wp2_with fail
  refine (text_nil F st msg ⟨#[]⟩ _ hF3 hm hw t ht).mono ?_
  rintro e w4 ⟨g2, cap2, rfl, hown2, hb4⟩
  have hbw4 : Below w.heap.size w w4 := hbw3.trans (hb4.mono hbw3.size)
  have Hown1b : Hid (Own w.heap.size w4 g1 cap1 (t ++ [10])) := Hown1.out.below hb4
  have hF4 : F.told.answers w4.tape := by rw [hb4.tape]; exact hF3
  have Hr1 : Hid (Reads w4 (.slice (some ⟨g1, 0, none⟩) (t.length + 1) cap1) (t ++ [10])) := Hown1b.out.reads' (by simp)
  have Hr2 : Hid (Reads w4 (.slice (some ⟨g2, 0, none⟩) (t.length + 1) cap2) (t ++ [10])) := hown2.reads' (by simp)
  have hl10 : w4.cell? ⟨g1, t.length, none⟩ = some (.int .u8 10) := by rw [Hown1b.out.holds t.length (by simp), cellsOf_at _ _ (by simp)]; simp
  clear Hown1 hF3 hown2 hb4 hbw3
  go_wp2_with fail
  refine (equal_same w4 _ _ (t ++ [10]) Hr1.out Hr2.out).mono ?_
  rintro e w' ⟨rfl, rfl⟩
  go_wp2_with fail
  refine (text_nil F st msg path w4 hF4 hm hw t ht).mono ?_
  rintro e w5 ⟨g3, cap3, rfl, hown3, hb5⟩
  have hbw5 : Below w.heap.size w w5 := hbw4.trans (hb5.mono hbw4.size)
  have Hown1c : Hid (Own w.heap.size w5 g1 cap1 (t ++ [10])) := Hown1b.out.below hb5
  have Hown3 : Hid (Own w.heap.size w5 g3 cap3 (t ++ [10])) := hown3.mono hbw4.size
  clear Hown1b hF4 Hr1 Hr2 hl10 hown3 hb5 hbw4
  obtain ⟨i5, hi5, hz50, hz51, hz52⟩ := info_parts info5
  go_wp2_with (first | (at_make; refine wpList_make_own _ rfl _ _ 22 rfl w5.heap.size 5 i5 (.int .u8 0) 1 Ybaf.underlying22 hi5 hz50 hz51 .i64 .i64 _ (t.length + 1 + 1) rfl rfl ?e1 ?e2 ?e3 ?e4 ?_))
  case e1 => omega
  case e2 => rw [hz52]; omega
  case e3 => unfold maxLen; omega
  case e4 => exact Nat.le_refl _
  intro w6 hown6 hgr6
  have Hw6 : Hid (Own w5.heap.size w6 w5.heap.size (t.length + 1 + 1) []) := own_made hown6
  have Hk6 : Hid (Below w5.heap.size w5 w6) := (Below.refl _ _).grown hgr6 (Nat.le_refl _) (fun k e => by cases e)
  clear hown6 hgr6 hi5 hz50 hz51 hz52
  have Hs6 : Hid (Src Ybaf.prog 1 22 (.slice (some ⟨g1, 0, none⟩) (t.length + 1) cap1) (t.length + 1) (cellsOf (t ++ [10])) w6) := (Hown1c.out.below Hk6.out).src (by simp)
  go_wp2_with (first | (at_builtin; refine wpList_append_bytes _ rfl (.tmp 74) (.tmp 75) rfl w5.heap.size w5.heap.size (t.length + 1 + 1) 0 [] rfl rfl Hw6.out Hk6.out.size (.slice (some ⟨g1, 0, none⟩) (t.length + 1) cap1) (t.length + 1) (t ++ [10]) (by simp) rfl Hs6.out (by omega) ?_))
  intro g6 cap6 w9 hown9 hgr9
  have Hw9 : Hid (Own w5.heap.size w9 g6 cap6 (t ++ [10])) := by simpa [Hid] using hown9
  have Hk9 : Hid (Below w5.heap.size w5 w9) := Hk6.out.grown hgr9 Hk6.out.size (fun k e => by cases e; exact Hw6.out.new)
  clear hown9 hgr9 Hs6 Hw6 Hk6
  have hbw9 : Below w.heap.size w w9 := hbw5.trans (Hk9.out.mono hbw5.size)
  have Hown9 : Hid (Own w.heap.size w9 g3 cap3 (t ++ [10])) := Hown3.out.below Hk9.out
  have Hr3 : Hid (Reads w9 (.slice (some ⟨g3, 0, none⟩) (t.length + 1) cap3) (t ++ [10])) := Hown9.out.reads' (by simp)
  have Hr6 : Hid (Reads w9 (.slice (some ⟨g6, 0, none⟩) (t.length + 1) cap6) (t ++ [10])) := Hw9.out.reads' (by simp)
  clear Hown1c Hown3 Hk9 Hw9 hbw5
  go_wp2_with fail
  refine (equal_same w9 _ _ (t ++ [10]) Hr3.out Hr6.out).mono ?_
  rintro e w' ⟨rfl, rfl⟩
  go_wp2_with fail
  refine (equal_same w9 _ _ [] (Hrn.out _) (Hrn.out _)).mono ?_
  rintro e w' ⟨rfl, rfl⟩
  clear Hr3 Hr6
  have Hz : Hid (Zer w.heap.size w w9 w9 g3 (t.length + 1)) := ⟨fun _ _ => rfl, rfl, fun j hj => Hown9.out.there j (by have := Hown9.out.le; simp at this; omega), hbw9⟩
  have Hg3 : Hid (w.heap.size ≤ g3) := Hown9.out.new
  clear Hown9 hbw9
  go_wp2
  go_loopw [14] (fun iv wr => ∃ k : Nat, k ≤ t.length + 1 ∧ iv = .int .i64 k ∧ Hid (Zer w.heap.size w w9 wr g3 (t.length + 1))) (fun iv _ => t.length + 1 - (intOf iv).toNat)
  case atStart => exact ⟨0, Nat.zero_le _, rfl, Hz⟩
  case round =>
    obtain ⟨k, hk, rfl, hZ⟩ := hrel
    clear Hz
    by_cases hkn : k < t.length + 1
    · obtain ⟨u, hu⟩ := Option.isSome_iff_exists.1 (hZ.out.there k hkn).1
      have hfz := (hZ.out.there k hkn).2
      go_wp2
      go_roundw
      case rel => exact ⟨k + 1, by omega, by go_num, hZ.out.step Hg3.out k _⟩
      case measure => simp [intOf]; omega
    · go_wp2_with fail
      refine (equal_same wr _ _ [] (Hrn.out _) (Hrn.out _)).mono ?_
      rintro e w' ⟨rfl, rfl⟩
      go_wp2
      go_ret
      exact ⟨rfl, hZ.out.below⟩

set_option maxRecDepth 100000 in
/-- Beyond the law's own bounds. -/
theorem walk_out (st : Int) (msg path : ByteArray) (a : Option Addr) (m c : Nat) (w : World) (h : 1048576 < m ∨ 1048576 < msg.size ∨ 1048576 < path.size) :
    Calls Ybaf.prog 3 #[.int .i64 st, .string msg, .string path, .slice a m c] w fun e w' => e = .returned (.bool true) ∧ Below w.heap.size w w' := by
  cases d1 : decide ((1048576 : Int) < (m : Int))
  · cases d2 : decide ((1048576 : Int) < (msg.size : Int))
    · have d3 : decide ((1048576 : Int) < (path.size : Int)) = true := decide_eq_true (by have := of_decide_eq_false d1; have := of_decide_eq_false d2; omega)
      clear h
      go_enter Ybaf.func3, Ybaf.ntmps3
      go_wp2
      go_ret
      exact ⟨rfl, Below.refl _ _⟩
    · clear h
      go_enter Ybaf.func3, Ybaf.ntmps3
      go_wp2
      go_ret
      exact ⟨rfl, Below.refl _ _⟩
  · clear h
    go_enter Ybaf.func3, Ybaf.ntmps3
    go_wp2
    go_ret
    exact ⟨rfl, Below.refl _ _⟩
end Go.Proofs.YbulkdieuFmt
