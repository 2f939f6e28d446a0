import Derived.Test.YbulkdideParts
import Derived.Deep.Cut
import Derived.Deep.CutRange
import Derived.Deep.DeepCutAuto
import Derived.OpenShut
namespace Go.Proofs.Ybulkdide
open Go.RowKit Heapy Go.Deep

set_option maxRecDepth 100000 in
set_option maxHeartbeats 4000000 in
theorem walk_few (a0 : Option Addr) (len0 cap0 : Nat) (z0 : List Int) (a1 : Int) (w : World) (w0 : IsRow .u32 w a0 len0 cap0 z0) (w1 : (Lit.int .u64 a1).wf = true) (hlen : len0 ≤ 65536) :
    Calls Yba.prog 3 #[.slice a0 len0 cap0, .int .u64 a1] w fun e w' => e = .returned (.bool true) ∧ Below w.heap.size w w' := by
  obtain ⟨n, hn0, hn1, hn2⟩ : ∃ n : Nat, 2 ≤ n ∧ n ≤ 65536 ∧ ((2 ≤ len0 ∧ n = len0) ∨ (len0 < 2 ∧ n = 2)) := by
    by_cases h : 2 ≤ len0
    · exact ⟨len0, h, hlen, .inl ⟨h, rfl⟩⟩
    · exact ⟨2, by omega, by omega, .inr ⟨by omega, rfl⟩⟩
  have hmk := fun w => run_make_row' (P := Yba.prog) 24 25 (.int .u64 0) 8 Yba.underlying24 info25 rfl .i64 .i64 n (by omega) (by omega) w
  have hmk2 := fun w => run_make_row' (P := Yba.prog) 28 29 (.pointer none) 8 Yba.underlying28 info29 rfl .i64 .i64 n (by omega) (by omega) w
  have ha1 := (bounds_u64 w1).1
  obtain ⟨t, ht⟩ : ∃ t : Nat, a1 % (n : Int) = t := ⟨(a1 % (n : Int)).toNat, (Int.toNat_of_nonneg (Int.emod_nonneg _ (by omega))).symm⟩
  have htn : t < n := by have := Int.emod_lt_of_pos a1 (show (0 : Int) < n by omega); omega
  clear w1
  obtain ⟨i29, hi29, hz0, hz1, hz2⟩ := info_parts info29
  have HN : Hid ((2 ≤ len0 ∧ n = len0) ∨ (len0 < 2 ∧ n = 2)) := hn2
  clear hn2
  go_enter Yba.func3, Yba.ntmps3
  go_upto_if 24 with fail
  go_cut [5] (fun v wc => v = .int .i64 (n : Int) ∧ w = wc)
  case first =>
    rcases HN.out with ⟨h, rfl⟩ | ⟨h, rfl⟩
    · go_wp2
      go_meet
      case rel => exact ⟨rfl, rfl⟩
    · go_wp2
      go_meet
      case rel => exact ⟨rfl, rfl⟩
  case rest =>
    obtain ⟨rfl, rfl⟩ := hcut
    clear HN
    go_wp2
    go_loopw [7] (fun iv wr => ∃ (k : Nat) (z : Nat → Int), k ≤ n ∧ iv = .int .i64 k ∧ V w n z wr) (fun iv _ => n - (intOf iv).toNat)
    case atStart => exact ⟨0, _, Nat.zero_le _, rfl, V.start w n⟩
    case round =>
      obtain ⟨k, z, hk, rfl, hV⟩ := hrel
      by_cases hkn : k < n
      · have ck := hV.1.1 k hkn
        have fk := hV.1.2 k hkn
        by_cases hkl : k < len0
        · obtain ⟨b, off, rfl, hc0, hb⟩ := isRow_at w0 k hkl
          have hc := (hV.2.1.cell (p := ⟨b, off + k, none⟩) hb).trans hc0
          clear hc0 w0
          go_wp2
          go_roundw
          case rel => exact ⟨k + 1, _, by omega, by go_num, hV.store k hkn _⟩
          case measure => simp [intOf]; omega
        · go_wp2
          go_roundw
          case rel => exact ⟨k + 1, _, by omega, by go_num, hV.store k hkn _⟩
          case measure => simp [intOf]; omega
      · go_wp2_with fail
        refine (heapify_any w.heap.size n z hn1 hn0 _ hV.1).mono ?_
        rintro e w1 ⟨rfl, z1, hF, hst⟩
        have hV1 := hV.heap hst
        clear hst hV w0
        have hsz : w1.heap.size = w.heap.size + 1 := hV1.2.2
        go_wp2
        go_loopw [55] (fun iv wr => ∃ (k : Nat), k ≤ n ∧ iv = .int .i64 k ∧ Lv w n z1 k wr) (fun iv _ => n - (intOf iv).toNat)
        case atStart => exact ⟨0, Nat.zero_le _, rfl, Lv.start hV1⟩
        case round =>
          clear hV1 hsz
          obtain ⟨k2, hk2, rfl, hL⟩ := hrel
          by_cases hkn2 : k2 < n
          · have cv := hL.v k2 hkn2
            have hsz2 := hL.size
            have cp := fun o => (World.cell?_alloc_past o (w.heap.size + 1) k2 (by omega)).trans (hL.todo k2 (Nat.le_refl _) hkn2)
            have fp := fun o => (World.frozen?_alloc_past o (w.heap.size + 1) k2 (by omega)).trans (hL.free k2 hkn2)
            go_wp2
            go_roundw
            case rel => exact ⟨k2 + 1, by omega, by go_num, hL.step hkn2⟩
            case measure => simp [intOf]; omega
          · have hLn : Lv w n z1 n wr := by
              have e : k2 = n := by omega
              rw [e] at hL; exact hL
            clear hL
            have ct := hLn.done t htn
            go_upto_region 23 with fail
            go_cut [13] (fun l wc => ∃ g q lb c, l = .pointer (some ⟨lb, 0, none⟩) ∧ Fin w n z1 t g q lb c wc)
            case first =>
              go_wp2_with (first | (at_builtin; refine wpList_append_own _ rfl _ _ 28 rfl w.heap.size 29 i29 (.pointer none) 1 8 Yba.underlying28 hi29 hz0 hz1 hz2 rfl (by decide) _ 0 [] rfl (World.ownsRow_nil _ _ _ _) ⟨w.heap.size + 1, 0, none⟩ n n (ptrs w n) rfl ?c0 ?c1 ?c2 ?c3 ?c4 ?c5 ?_))
              case c0 => exact ptrs_length w n
              case c1 => exact ptrs_cells hLn _
              case c2 => exact ptrs_one w n
              case c3 => unfold maxLen; omega
              case c4 => omega
              case c5 => have := hLn.size; simp; omega
              · intro v' w2 hown hgrow _
                obtain ⟨g, cap, hv, hfin⟩ := fin_made hLn hn0 hown hgrow
                clear hown hgrow hLn
                have Hfin := hfin
                clear hfin
                rw [hv] at Hfin
                rw [hv]
                clear hv
                go_wp2_with fail
                go_meet
                case rel => exact ⟨g, _, _, cap, rfl, Hfin _ rfl rfl rfl rfl⟩
            case rest =>
              obtain ⟨g, q, lb, c, rfl, hf⟩ := hcut
              clear hLn ct
              go_wp2_with fail
              refine (longest_law hf hF htn hn0).mono ?_
              rintro e w5 ⟨m, hm, rfl, kd, rfl⟩
              have Hm : Hid (wantTo z1 t n = some m) := hm
              clear hm hF
              have hl21 := hf.l21
              have hl19 := hf.l19
              have hl20 := hf.l20
              have hl22 := hf.l22
              have hqs := hf.qs
              have hnt := neq_same ⟨w.heap.size + 2 + t, 0, none⟩
              have hnm := neq_same ⟨w.heap.size + 2 + m, 0, none⟩
              go_wp2
              go_loopw [15, 16] (fun wv iv wr => ∃ k : Nat, k ≤ n ∧ iv = .int .i64 k ∧ ((wantTo z1 t k = none ∧ wv = .pointer none) ∨ ∃ m', wantTo z1 t k = some m' ∧ wv = .pointer (some ⟨w.heap.size + 2 + m', 0, none⟩)) ∧ ∃ d, wr = wc.drewN d) (fun _ iv _ => n - (intOf iv).toNat)
              case atStart => exact ⟨0, Nat.zero_le _, rfl, .inl ⟨rfl, rfl⟩, kd, rfl⟩
              case round =>
                obtain ⟨k3, hk3, rfl, hwant, d, rfl⟩ := hrel
                by_cases hkn3 : k3 < n
                · have cp := hf.ps k3 hkn3
                  have cf := hf.first k3 hkn3
                  by_cases hkt : k3 = t
                  · have H2 : Hid (wantTo z1 t (k3 + 1) = wantTo z1 t k3) := by show wantTo z1 t (k3 + 1) = _; rw [wantTo, if_pos hkt]
                    have hkt' : ((k3 : Int) == (t : Int)) = true := by simp [hkt]
                    clear hkt
                    rcases hwant with ⟨hw1, rfl⟩ | ⟨m', hw1, rfl⟩
                    · have Hw1 : Hid (wantTo z1 t k3 = none) := hw1
                      clear hw1
                      go_wp2
                      go_roundw
                      case rel => exact ⟨k3 + 1, by omega, by go_num, .inl ⟨H2.out.trans Hw1.out, rfl⟩, d, rfl⟩
                      case measure => simp [intOf]; omega
                    · have Hw1 : Hid (wantTo z1 t k3 = some m') := hw1
                      clear hw1
                      go_wp2
                      go_roundw
                      case rel => exact ⟨k3 + 1, by omega, by go_num, .inr ⟨m', H2.out.trans Hw1.out, rfl⟩, d, rfl⟩
                      case measure => simp [intOf]; omega
                  · have hkt' : ((k3 : Int) == (t : Int)) = false := by rw [beq_eq_false_iff_ne]; omega
                    rcases hwant with ⟨hw1, rfl⟩ | ⟨m', hw1, rfl⟩
                    · have H2 : Hid (wantTo z1 t (k3 + 1) = some k3) := by show wantTo z1 t (k3 + 1) = _; rw [wantTo, if_neg hkt, hw1]
                      clear hw1 hkt
                      go_wp2
                      go_quiet (fail)
                      go_wp2
                      go_roundw
                      case rel => exact ⟨k3 + 1, by omega, by go_num, .inr ⟨k3, H2.out, rfl⟩, _, rfl⟩
                      case measure => simp [intOf]; omega
                    · have hm' : m' < n := by have := wantTo_lt z1 t k3 m' hw1; omega
                      have cf' := hf.first m' hm'
                      by_cases hlt : z1 k3 < z1 m'
                      · have H2 : Hid (wantTo z1 t (k3 + 1) = some k3) := by show wantTo z1 t (k3 + 1) = _; rw [wantTo, if_neg hkt, hw1]; exact if_pos hlt
                        clear hw1 hkt
                        go_wp2
                        go_quiet (fail)
                        go_wp2
                        go_roundw
                        case rel => exact ⟨k3 + 1, by omega, by go_num, .inr ⟨k3, H2.out, rfl⟩, _, rfl⟩
                        case measure => simp [intOf]; omega
                      · have H2 : Hid (wantTo z1 t (k3 + 1) = some m') := by show wantTo z1 t (k3 + 1) = _; rw [wantTo, if_neg hkt, hw1]; exact if_neg hlt
                        clear hw1 hkt
                        go_wp2
                        go_quiet (fail)
                        go_wp2
                        go_roundw
                        case rel => exact ⟨k3 + 1, by omega, by go_num, .inr ⟨m', H2.out, rfl⟩, _, rfl⟩
                        case measure => simp [intOf]; omega
                · have hke : k3 = n := by omega
                  rcases hwant with ⟨hw1, _⟩ | ⟨p, hp1, rfl⟩
                  · exfalso; rw [hke, Hm.out] at hw1; cases hw1
                  have hpm : p = m := by rw [hke, Hm.out] at hp1; exact (Option.some.inj hp1).symm
                  clear hp1 hke
                  subst hpm
                  go_wp2
                  go_loopw [165] (fun iv wr => ∃ k : Nat, k ≤ n ∧ iv = .int .i64 k ∧ ∃ d, wr = wc.drewN d) (fun iv _ => n - (intOf iv).toNat)
                  case atStart => exact ⟨0, Nat.zero_le _, rfl, _, rfl⟩
                  case round =>
                    obtain ⟨k4, hk4, rfl, d4, rfl⟩ := hrel
                    by_cases hkn4 : k4 < n
                    · have dps := hf.ps k4 hkn4
                      have dgs := hf.gs k4 hkn4
                      have dv := hf.v k4 hkn4
                      have dfirst := hf.first k4 hkn4
                      have dprio := hf.priority k4 hkn4
                      have dnum := hf.number k4 hkn4
                      have hnk := neq_same ⟨w.heap.size + 2 + k4, 0, none⟩
                      go_wp2
                      go_quiet (fail)
                      go_wp2
                      go_roundw
                      case rel => exact ⟨k4 + 1, by omega, by go_num, _, rfl⟩
                      case measure => simp [intOf]; omega
                    · go_wp2
                      go_ret
                      exact ⟨rfl, below_drewN hf.below _⟩
end Go.Proofs.Ybulkdide
