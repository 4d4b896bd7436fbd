/-
  The walks of partsOf (18) and ZZpartsOf (8).
-/
import Derived.Test.Qxb6605895aProg
import Derived.Test.Qxb6605895aRowLaw
namespace Go.Proofs.Qxb6605895a
open Go.RowKit

theorem Try.size24 : (Try.prog.info? 24).map (·.size) = some 64 := by kernel_rfl

set_option maxRecDepth 100000 in
set_option maxHeartbeats 1000000 in
theorem partsOf_any (ao : Option Addr) (n c : Nat) (zs : List Int) (w : World) (hn : n ≤ 1048576) (s0 : SrcAt .i64 w ao n c zs) :
    Calls Try.prog 18 #[.slice ao n c] w fun e w' => e = .returned (.agg (marks (zs.take n))) ∧ Below w.heap.size w w' := by
  have S0 : Hid (SrcAt .i64 w ao n c zs) := s0
  clear s0
  go_enter Try.func18, Try.ntmps18
  go_wp2_with fail
  go_loopw [8] (fun i wr => ∃ k : Nat, k ≤ n ∧ i = .int .i64 k ∧ wr.heap[w.heap.size]? = some (.cells (marks []) 24 (0, 0)) ∧ wr.heap[w.heap.size + 1]? = some (.cells (marks (zs.take k)) 24 (0, 0)) ∧ Below w.heap.size w wr) (fun i _ => n - (intOf i).toNat)
  case atStart =>
    refine ⟨0, Nat.zero_le _, rfl, ?_, ?_, ((Below.refl _ _).alloc (Nat.le_refl _) _).alloc (by simp) _⟩
    · rw [heap_alloc2_old, marks_nil]
    · rw [heap_alloc2_new, List.take_zero, marks_nil]
  case round =>
    obtain ⟨k, hk, rfl, h1, h2, hb⟩ := hrel
    by_cases hlt : k < n
    · have hx : ∃ ad, ao = some ad := by
        cases ao with
        | none => have := (S0.out.1 rfl).1; omega
        | some ad => exact ⟨ad, rfl⟩
      obtain ⟨ad, rfl⟩ := hx
      have hzl := S0.out.2.1
      have hd : wr.cell? (ad.add k) = some (.int .i64 (zs[k]?.getD 0)) := by
        have := S0.out.2.2 ad rfl k hlt
        rw [hb.cell (World.block_lt_of_cell? w _ this)]; exact this
      have HT : Hid (zs.take (k + 1) = zs.take k ++ [zs[k]?.getD 0]) := take_snoc zs k (by omega)
      generalize zs[k]?.getD 0 = p at *
      by_cases hp0 : 0 ≤ p
      · by_cases hp1 : p < 64
        · obtain ⟨q, rfl⟩ := Int.eq_ofNat_of_zero_le hp0
          have hq : q < 64 := by omega
          have hcell : wr.cell? ⟨w.heap.size + 1, q, none⟩ = some (.bool (mark (zs.take k) q)) := by rw [cell_of_row _ _ _ _ _ _ h2, marks_get _ _ hq]
          have hfr : wr.frozen? ⟨w.heap.size + 1, q, none⟩ = false := frozen_of_row _ _ _ _ _ h2
          have H1 : Hid (wr.heap[w.heap.size]? = some (.cells (marks []) 24 (0, 0))) := h1
          have H2 : Hid (wr.heap[w.heap.size + 1]? = some (.cells (marks (zs.take k)) 24 (0, 0))) := h2
          clear h1 h2
          go_wp2_with fail
          go_roundw
          case rel =>
            refine ⟨k + 1, by omega, by go_num, ?_, ?_, hb.setCell (by simp) _⟩
            · rw [heap_setCell_other _ _ _ _ (by simp)]; exact H1.out
            · rw [heap_setCell_same _ _ _ _ _ _ H2.out, HT.out, marks_set _ _ hq]
          case measure => simp [intOf]; omega
        · have HM : Hid (marks (zs.take (k + 1)) = marks (zs.take k)) := by show marks _ = _; rw [HT.out, marks_out _ _ (by omega)]
          have H1 : Hid (wr.heap[w.heap.size]? = some (.cells (marks []) 24 (0, 0))) := h1
          have H2 : Hid (wr.heap[w.heap.size + 1]? = some (.cells (marks (zs.take k)) 24 (0, 0))) := h2
          clear h1 h2
          go_wp2_with fail
          go_roundw
          case rel => exact ⟨k + 1, by omega, by go_num, H1.out, by rw [HM.out]; exact H2.out, hb⟩
          case measure => simp [intOf]; omega
      · have HM : Hid (marks (zs.take (k + 1)) = marks (zs.take k)) := by show marks _ = _; rw [HT.out, marks_out _ _ (by omega)]
        have H1 : Hid (wr.heap[w.heap.size]? = some (.cells (marks []) 24 (0, 0))) := h1
        have H2 : Hid (wr.heap[w.heap.size + 1]? = some (.cells (marks (zs.take k)) 24 (0, 0))) := h2
        clear h1 h2
        go_wp2_with fail
        go_roundw
        case rel => exact ⟨k + 1, by omega, by go_num, H1.out, by rw [HM.out]; exact H2.out, hb⟩
        case measure => simp [intOf]; omega
    · obtain rfl : k = n := by omega
      clear hlt
      have hi : (Try.prog.info? 24).map (·.size) = some (marks (zs.take k)).size := by rw [marks_size]; exact Try.size24
      go_wp2_with (first | (refine wpList_load_row rfl 24 (.tmp 3) rfl (w.heap.size + 1) rfl 24 (marks (zs.take k)) (0, 0) _ h2 Try.underlying24 rfl hi ?_) | (refine wpList_store_row rfl 24 (.tmp 2) (.tmp 21) rfl w.heap.size 24 (marks []) (marks (zs.take k)) rfl rfl h1 (by rw [marks_size, marks_size]) hi (marks_one _) ?_))
      refine bodyPost_ret (v := .agg (marks (zs.take k))) (results_cell_row rfl _ _ w.heap.size 24 (marks (zs.take k)) (0, 0) _ rfl (setRow_heap _ _ _ _ _ _ h1) Try.underlying24 rfl hi) rfl ⟨rfl, below_setRow hb (Nat.le_refl _) _⟩

set_option maxRecDepth 100000 in
set_option maxHeartbeats 1000000 in
theorem zzpartsOf_any (ao : Option Addr) (n c : Nat) (zs : List Int) (w : World) (hn : n ≤ 1048576) (s0 : SrcAt .i64 w ao n c zs) :
    Calls Try.prog 8 #[.slice ao n c] w fun e w' => e = .returned (.agg (marks (zs.take n))) ∧ Below w.heap.size w w' := by
  have S0 : Hid (SrcAt .i64 w ao n c zs) := s0
  clear s0
  have hi : (Try.prog.info? 24).map (·.size) = some (marks (zs.take n)).size := by rw [marks_size]; exact Try.size24
  go_enter Try.func8, Try.ntmps8
  go_wp2_with fail
  refine (partsOf_any ao n c zs _ hn (S0.out.below ((Below.refl _ _).alloc (Nat.le_refl _) _))).mono ?_
  rintro e w1 ⟨rfl, hb⟩
  have h1 : w1.heap[w.heap.size]? = some (.cells (marks []) 24 (0, 0)) := by
    rw [hb.block _ (by simp), heap_alloc_new, marks_nil]
  go_wp2_with (refine wpList_store_row rfl 24 (.tmp 2) (.tmp 4) rfl w.heap.size 24 (marks []) (marks (zs.take n)) rfl rfl h1 (by rw [marks_size, marks_size]) hi (marks_one _) ?_)
  refine bodyPost_ret (v := .agg (marks (zs.take n))) (results_cell_row rfl _ _ w.heap.size 24 (marks (zs.take n)) (0, 0) _ rfl (setRow_heap _ _ _ _ _ _ h1) Try.underlying24 rfl hi) rfl ⟨rfl, below_setRow (((Below.refl _ _).alloc (Nat.le_refl _) _).trans (hb.mono (by simp))) (Nat.le_refl _) _⟩
end Go.Proofs.Qxb6605895a
