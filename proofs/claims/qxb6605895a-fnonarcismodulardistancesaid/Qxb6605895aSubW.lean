/-
  The walks of sub160 (14), isZero160 (15), lessEq160 (16).
-/
import Derived.Test.Qxb6605895aSub
namespace Go.Proofs.Qxb6605895a
open Go.RowKit
set_option linter.unusedSimpArgs false

theorem hid_of {p : Prop} (h : p) : Hid p := h
theorem drop_cons (xs : List Int) (j : Nat) (h : j < xs.length) : xs.drop j = (xs[j]?.getD 0) :: xs.drop (j + 1) := by
  rw [List.drop_eq_getElem_cons h, List.getElem?_eq_getElem h]; rfl
theorem byte_at {xs : List Int} (b : Bytes xs) (j : Nat) : 0 ≤ xs[j]?.getD 0 ∧ xs[j]?.getD 0 < 256 := by
  by_cases h : j < xs.length
  · rw [List.getElem?_eq_getElem h]; exact b _ (List.getElem_mem h)
  · rw [List.getElem?_eq_none (by omega)]; simp

set_option maxRecDepth 100000 in
set_option maxHeartbeats 1000000 in
theorem isZero_any (xs : List Int) (w : World) (hn : xs.length = 20) (bx : Bytes xs) :
    Calls Try.prog 15 #[.agg (idA xs)] w fun e w' => e = .returned (.bool (decide (val xs = 0))) ∧ Below w.heap.size w w' := by
  have hv := zB_val xs bx
  have Q : Hid (_ ∧ _) := ⟨heap_alloc_new w (.cells (idA xs) 26), (Below.refl _ w).alloc (Nat.le_refl _) (.cells (idA xs) 26)⟩
  have HV : Hid (zB xs = decide (val xs = 0)) := hv
  clear hv
  go_enter Try.func15, Try.ntmps15
  go_upto_region 1 with fail
  generalize w.alloc (.cells (idA xs) 26) = W at *
  obtain ⟨q1, qb⟩ := Q.out
  have H1 : Hid (W.heap[w.heap.size]? = some (.cells (idA xs) 26 (0, 0))) := q1
  have HB : Hid (Below w.heap.size w W) := qb
  clear Q q1 qb
  go_wp2_with fail
  go_loop [3] (fun i => ∃ k : Nat, k ≤ 20 ∧ i = .int .i64 k ∧ Hid (zB xs = zB (xs.drop k))) (fun i => 20 - (intOf i).toNat)
  case atStart => exact ⟨0, by omega, rfl, by show _ = _; simp⟩
  case round =>
    obtain ⟨k, hk, rfl, HZ⟩ := hrel
    by_cases hlt : k < 20
    · have hc : W.cell? ⟨w.heap.size, k, none⟩ = some (.int .u8 (xs[k]?.getD 0)) := by rw [cell_of_row _ _ _ _ _ _ H1.out, idA_get xs k (by omega)]
      have HD := hid_of (drop_cons xs k (by omega))
      generalize xs[k]?.getD 0 = x at *
      by_cases hx : (x != 0) = true
      · have HF : Hid (decide (val xs = 0) = false) := by show _ = _; rw [← HV.out, HZ.out, HD.out, zB, if_neg (by simpa using hx)]
        go_wp2_with fail
        go_ret
        exact ⟨by rw [HF.out]; rfl, HB.out⟩
      · have hx' : (x != 0) = false := by simpa using hx
        have HZ' : Hid (zB xs = zB (xs.drop (k + 1))) := by show _ = _; rw [HZ.out, HD.out, zB, if_pos (by simpa using hx')]
        clear hx
        go_wp2_with fail
        go_round
        case rel => exact ⟨k + 1, by omega, by go_num, HZ'⟩
        case measure => simp [intOf]; omega
    · obtain rfl : k = 20 := by omega
      have HF : Hid (decide (val xs = 0) = true) := by show _ = _; rw [← HV.out, HZ.out, List.drop_of_length_le (by omega), zB]
      go_wp2_with fail
      go_ret
      exact ⟨by rw [HF.out]; rfl, HB.out⟩

set_option maxRecDepth 100000 in
set_option maxHeartbeats 1000000 in
theorem lessEq_any (xs ys : List Int) (w : World) (hxn : xs.length = 20) (hyn : ys.length = 20) (bx : Bytes xs) (by' : Bytes ys) :
    Calls Try.prog 16 #[.agg (idA xs), .agg (idA ys)] w fun e w' => e = .returned (.bool (decide (val xs ≤ val ys))) ∧ Below w.heap.size w w' := by
  have hv := leB_val xs ys (by omega) bx by'
  have Q : Hid (_ ∧ _ ∧ _) := ⟨heap_alloc2_old w (.cells (idA xs) 26) (.cells (idA ys) 26), heap_alloc2_new w (.cells (idA xs) 26) (.cells (idA ys) 26), ((Below.refl _ w).alloc (Nat.le_refl _) (.cells (idA xs) 26)).alloc (by simp) (.cells (idA ys) 26)⟩
  have HV : Hid (leB xs ys = decide (val xs ≤ val ys)) := hv
  clear hv
  go_enter Try.func16, Try.ntmps16
  go_upto_region 1 with fail
  generalize (w.alloc (.cells (idA xs) 26)).alloc (.cells (idA ys) 26) = W at *
  obtain ⟨q1, q2, qb⟩ := Q.out
  have H1 : Hid (W.heap[w.heap.size]? = some (.cells (idA xs) 26 (0, 0))) := q1
  have H2 : Hid (W.heap[w.heap.size + 1]? = some (.cells (idA ys) 26 (0, 0))) := q2
  have HB : Hid (Below w.heap.size w W) := qb
  clear Q q1 q2 qb
  go_wp2_with fail
  go_loopw [5] (fun i wr => ∃ k n : Nat, k ≤ 20 ∧ i = .int .i64 k ∧ wr = W.drewN n ∧ Hid (leB xs ys = leB (xs.drop k) (ys.drop k))) (fun i _ => 20 - (intOf i).toNat)
  case atStart => exact ⟨0, 0, by omega, rfl, rfl, by show _ = _; simp⟩
  case round =>
    obtain ⟨k, n, hk, rfl, rfl, HZ⟩ := hrel
    by_cases hlt : k < 20
    · have hc1 : W.cell? ⟨w.heap.size, k, none⟩ = some (.int .u8 (xs[k]?.getD 0)) := by rw [cell_of_row _ _ _ _ _ _ H1.out, idA_get xs k (by omega)]
      have hc2 : W.cell? ⟨w.heap.size + 1, k, none⟩ = some (.int .u8 (ys[k]?.getD 0)) := by rw [cell_of_row _ _ _ _ _ _ H2.out, idA_get ys k (by omega)]
      have HD := hid_of (drop_cons xs k (by omega))
      have HE := hid_of (drop_cons ys k (by omega))
      have b1 : (0 : Int) ≤ (k : Int) := by omega
      have b2 : (k : Int) < 20 := by omega
      generalize xs[k]?.getD 0 = x at *
      generalize ys[k]?.getD 0 = y at *
      by_cases hx : (x != y) = true
      · have HF : Hid (decide (val xs ≤ val ys) = decide (x < y)) := by show _ = _; rw [← HV.out, HZ.out, HD.out, HE.out, leB, if_neg (by simpa using hx)]
        go_wp2_with fail
        go_quiet (fail)
        go_wp2_with fail
        go_quiet (fail)
        go_wp2_with fail
        go_ret
        exact ⟨by rw [HF.out]; rfl, by simp only [World.drewN_drewN]; exact below_drewN HB.out _⟩
      · have hx' : (x != y) = false := by simpa using hx
        have HZ' : Hid (leB xs ys = leB (xs.drop (k + 1)) (ys.drop (k + 1))) := by show _ = _; rw [HZ.out, HD.out, HE.out, leB, if_pos (by simpa using hx')]
        clear hx
        go_wp2_with fail
        go_quiet (fail)
        go_wp2_with fail
        go_roundw
        case rel => exact ⟨k + 1, _, by omega, by go_num, rfl, HZ'⟩
        case measure => simp [intOf]; omega
    · obtain rfl : k = 20 := by omega
      have HF : Hid (decide (val xs ≤ val ys) = true) := by show _ = _; rw [← HV.out, HZ.out, List.drop_of_length_le (by omega), List.drop_of_length_le (by omega), leB]; simp
      go_wp2_with fail
      go_ret
      exact ⟨by rw [HF.out]; rfl, below_drewN HB.out _⟩

/-- The bytes of the difference that are done: from place i on. -/
def dRow (xs ys : List Int) (i : Nat) : List Int := List.replicate i 0 ++ (subB (xs.drop i) (ys.drop i)).1
def zero20 : Array Value := #[.int .u8 0, .int .u8 0, .int .u8 0, .int .u8 0, .int .u8 0, .int .u8 0, .int .u8 0, .int .u8 0, .int .u8 0, .int .u8 0, .int .u8 0, .int .u8 0, .int .u8 0, .int .u8 0, .int .u8 0, .int .u8 0, .int .u8 0, .int .u8 0, .int .u8 0, .int .u8 0]

theorem dRow_20 (xs ys : List Int) (hx : xs.length = 20) : idA (dRow xs ys 20) = zero20 := by
  rw [dRow, List.drop_of_length_le (by omega)]
  have : (subB [] (ys.drop 20)).1 = [] := by cases ys.drop 20 <;> rfl
  rw [this]
  rfl
theorem dRow_0 (xs ys : List Int) : dRow xs ys 0 = (subB xs ys).1 := by simp [dRow]

theorem dRow_set (xs ys : List Int) (j : Nat) (v : Int) (hv : (subB (xs.drop j) (ys.drop j)).1 = v :: (subB (xs.drop (j + 1)) (ys.drop (j + 1))).1) :
    (idA (dRow xs ys (j + 1))).setIfInBounds j (.int .u8 v) = idA (dRow xs ys j) := by
  apply Array.ext'
  simp only [idA, dRow, Array.toList_setIfInBounds, hv]
  rw [List.map_append, List.map_append, List.map_replicate, List.map_replicate, List.replicate_succ', List.append_assoc, List.set_append_right _ _ (by simp)]
  simp

theorem four_new (w : World) (A B C D : Obj) : ((((w.alloc A).alloc B).alloc C).alloc D).heap[w.heap.size]? = some A ∧ ((((w.alloc A).alloc B).alloc C).alloc D).heap[w.heap.size + 1]? = some B ∧ ((((w.alloc A).alloc B).alloc C).alloc D).heap[w.heap.size + 1 + 1]? = some C ∧ ((((w.alloc A).alloc B).alloc C).alloc D).heap[w.heap.size + 1 + 1 + 1]? = some D ∧ Below w.heap.size w ((((w.alloc A).alloc B).alloc C).alloc D) := by
  obtain ⟨h1, h2, h3, h4⟩ := three_new w A B C
  refine ⟨?_, ?_, ?_, ?_, ((((Below.refl _ _).alloc (Nat.le_refl _) _).alloc (by simp) _).alloc (by simp; omega) _).alloc (by simp; omega) _⟩
  · rw [Below.heap_alloc _ _ _ (by omega)]; exact h1
  · rw [Below.heap_alloc _ _ _ (by omega)]; exact h2
  · rw [Below.heap_alloc _ _ _ (by omega)]; exact h3
  · have := heap_alloc_new (((w.alloc A).alloc B).alloc C) D
    rw [h4] at this; exact this

set_option maxRecDepth 100000 in
set_option maxHeartbeats 1000000 in
theorem sub_any (xs ys : List Int) (w : World) (hxn : xs.length = 20) (hyn : ys.length = 20) (bx : Bytes xs) (by' : Bytes ys) :
    Calls Try.prog 14 #[.agg (idA xs), .agg (idA ys)] w fun e w' => e = .returned (.agg (idA (subB xs ys).1)) ∧ Below w.heap.size w w' := by
  have Q := hid_of (four_new w (.cells (idA xs) 26) (.cells (idA ys) 26) (.cells zero20 26) (.cells zero20 26))
  go_enter Try.func14, Try.ntmps14
  go_upto_region 2 with fail
  change Code.wp _ _ _ _ ((((w.alloc (.cells (idA xs) 26)).alloc (.cells (idA ys) 26)).alloc (.cells zero20 26)).alloc (.cells zero20 26))
  generalize (((w.alloc (.cells (idA xs) 26)).alloc (.cells (idA ys) 26)).alloc (.cells zero20 26)).alloc (.cells zero20 26) = W at *
  obtain ⟨q1, q2, q3, q4, qb⟩ := Q.out
  have H1 : Hid (W.heap[w.heap.size]? = some (.cells (idA xs) 26 (0, 0))) := q1
  have H2 : Hid (W.heap[w.heap.size + 1]? = some (.cells (idA ys) 26 (0, 0))) := q2
  have H3 : Hid (W.heap[w.heap.size + 1 + 1]? = some (.cells zero20 26 (0, 0))) := q3
  have H4 : Hid (W.heap[w.heap.size + 1 + 1 + 1]? = some (.cells zero20 26 (0, 0))) := q4
  have HB : Hid (Below w.heap.size w W) := qb
  clear Q q1 q2 q3 q4 qb
  go_wp2_with fail
  go_loopw [6, 7, 8] (fun bo i _ wr => ∃ (k : Nat) (b : Int), k ≤ 20 ∧ i = .int .i64 ((k : Int) - 1) ∧ bo = .int .i64 b ∧ 0 ≤ b ∧ b ≤ 1 ∧ Hid (b = (subB (xs.drop k) (ys.drop k)).2) ∧
      Hid (wr.heap[w.heap.size]? = some (.cells (idA xs) 26 (0, 0))) ∧ Hid (wr.heap[w.heap.size + 1]? = some (.cells (idA ys) 26 (0, 0))) ∧ Hid (wr.heap[w.heap.size + 1 + 1]? = some (.cells zero20 26 (0, 0))) ∧
      Hid (wr.heap[w.heap.size + 1 + 1 + 1]? = some (.cells (idA (dRow xs ys k)) 26 (0, 0))) ∧ Hid (Below w.heap.size w wr)) (fun _ i _ _ => (intOf i + 1).toNat)
  case atStart =>
    refine ⟨20, 0, by omega, rfl, rfl, by omega, by omega, ?_, H1, H2, H3, ?_, HB⟩
    · show _ = _; rw [List.drop_of_length_le (by omega), List.drop_of_length_le (by omega)]; rfl
    · rw [dRow_20 xs ys hxn]; exact H4
  case round =>
    clear H1 H2 H3 H4 HB
    obtain ⟨k, b, hk, rfl, rfl, hb0, hb1, HBO, H1, H2, H3, H4, HB⟩ := hrel
    by_cases hlt : 0 < k
    · obtain ⟨j, rfl⟩ : ∃ j, k = j + 1 := ⟨k - 1, by omega⟩
      rw [show (((j + 1 : Nat) : Int) - 1) = (j : Int) by omega]
      have hc1 : wr.cell? ⟨w.heap.size, j, none⟩ = some (.int .u8 (xs[j]?.getD 0)) := by rw [cell_of_row _ _ _ _ _ _ H1.out, idA_get xs j (by omega)]
      have hc2 : wr.cell? ⟨w.heap.size + 1, j, none⟩ = some (.int .u8 (ys[j]?.getD 0)) := by rw [cell_of_row _ _ _ _ _ _ H2.out, idA_get ys j (by omega)]
      have hc4 : wr.cell? ⟨w.heap.size + 1 + 1 + 1, j, none⟩ = some (.int .u8 ((dRow xs ys (j + 1))[j]?.getD 0)) := by
        rw [cell_of_row _ _ _ _ _ _ H4.out, idA_get _ j (by simp [dRow]; omega)]
      have hf4 : wr.frozen? ⟨w.heap.size + 1 + 1 + 1, j, none⟩ = false := frozen_of_row _ _ _ _ _ H4.out
      have HD := hid_of (drop_cons xs j (by omega))
      have HE := hid_of (drop_cons ys j (by omega))
      have gx := byte_at bx j
      have gy := byte_at by' j
      have b1 : (0 : Int) ≤ (j : Int) := by omega
      have b2 : (j : Int) < 20 := by omega
      have HS := hid_of (fun v => dRow_set xs ys j v)
      generalize (dRow xs ys (j + 1))[j]?.getD 0 = o4 at *
      generalize xs[j]?.getD 0 = x at *
      generalize ys[j]?.getD 0 = y at *
      by_cases hneg : x - y - b < 0
      · have HR : Hid (subB (xs.drop j) (ys.drop j) = ((x - y - b + 256) :: (subB (xs.drop (j + 1)) (ys.drop (j + 1))).1, 1)) := by
          show _ = _
          rw [HD.out, HE.out, subB_neg _ _ _ _ (by rw [← HBO.out]; exact hneg), ← HBO.out]
        clear HD HE HBO
        go_wp2_with fail
        go_quiet (fail)
        go_wp2_with fail
        go_roundw
        case rel =>
          refine ⟨j, 1, by omega, rfl, rfl, by omega, by omega, by show _ = _; rw [HR.out], ?_, ?_, ?_, ?_, ?_⟩
          · show _ = _; rw [heap_setCell_other _ _ _ _ (by simp; omega)]; exact H1.out
          · show _ = _; rw [heap_setCell_other _ _ _ _ (by simp)]; exact H2.out
          · show _ = _; rw [heap_setCell_other _ _ _ _ (by simp)]; exact H3.out
          · show _ = _; rw [heap_setCell_same _ _ _ _ _ _ (show (wr.drewN nq).heap[w.heap.size + 1 + 1 + 1]? = _ from H4.out), HS.out (x - y - b + 256) (by rw [HR.out])]
          · exact (below_drewN HB.out nq).setCell (by simp; omega) _
        case measure => simp [intOf]
      · have HR : Hid (subB (xs.drop j) (ys.drop j) = ((x - y - b) :: (subB (xs.drop (j + 1)) (ys.drop (j + 1))).1, 0)) := by
          show _ = _
          rw [HD.out, HE.out, subB_pos _ _ _ _ (by rw [← HBO.out]; exact hneg), ← HBO.out]
        clear HD HE HBO
        go_wp2_with fail
        go_quiet (fail)
        go_wp2_with fail
        go_roundw
        case rel =>
          refine ⟨j, 0, by omega, rfl, rfl, by omega, by omega, by show _ = _; rw [HR.out], ?_, ?_, ?_, ?_, ?_⟩
          · show _ = _; rw [heap_setCell_other _ _ _ _ (by simp; omega)]; exact H1.out
          · show _ = _; rw [heap_setCell_other _ _ _ _ (by simp)]; exact H2.out
          · show _ = _; rw [heap_setCell_other _ _ _ _ (by simp)]; exact H3.out
          · show _ = _; rw [heap_setCell_same _ _ _ _ _ _ (show (wr.drewN nq).heap[w.heap.size + 1 + 1 + 1]? = _ from H4.out), HS.out (x - y - b) (by rw [HR.out])]
          · exact (below_drewN HB.out nq).setCell (by simp; omega) _
        case measure => simp [intOf]
    · obtain rfl : k = 0 := by omega
      have HF : Hid (dRow xs ys 0 = (subB xs ys).1) := dRow_0 xs ys
      rw [HF.out] at H4
      have hl := (subB_law xs ys (by omega) bx by').1
      have hz : (Try.prog.info? 26).map (·.size) = some (idA (subB xs ys).1).size := by rw [idA_size, hl, hxn]; exact Try.size26
      have hz2 : (idA (subB xs ys).1).size = zero20.size := by rw [idA_size, hl, hxn]; rfl
      clear hl HF HBO
      generalize hDD : (subB xs ys).1 = D at *
      have HDD := hid_of hDD
      clear hDD
      go_wp2_with (first | (refine wpList_load_row rfl 26 (.tmp 5) rfl (w.heap.size + 1 + 1 + 1) rfl 26 (idA D) (0, 0) _ H4.out Try.underlying26 rfl hz ?_) | (refine wpList_store_row rfl 26 (.tmp 4) (.tmp 32) rfl (w.heap.size + 1 + 1) 26 zero20 (idA D) rfl rfl H3.out hz2 hz (idA_one _) ?_))
      refine bodyPost_ret (v := .agg (idA D)) (results_cell_row rfl _ _ (w.heap.size + 1 + 1) 26 (idA D) (0, 0) _ rfl (setRow_heap _ _ _ _ _ _ H3.out) Try.underlying26 rfl hz) rfl ⟨by rw [HDD.out], below_setRow HB.out (by omega) _⟩
end Go.Proofs.Qxb6605895a
