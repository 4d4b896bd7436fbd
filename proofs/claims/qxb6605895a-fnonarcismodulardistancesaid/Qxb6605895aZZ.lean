/-
  The walk of ZZonArc (13).
-/
import Derived.Test.Qxb6605895aBuild
namespace Go.Proofs.Qxb6605895a
open Go.RowKit
set_option linter.unusedSimpArgs false

set_option maxRecDepth 100000 in
set_option maxHeartbeats 1000000 in
theorem zzonArc_nil (ss ks : List Int) (a z : ByteArray) (w : World) (hsn : ss.length = 20) (hkn : ks.length = 20) :
    Calls Try.prog 13 #[.agg (peerA ss a z), .agg (idA ks), .pointer none] w fun e w' => e = .returned (.bool true) ∧ Below w.heap.size w w' := by
  have sP : (Try.prog.info? 34).map (·.size) = some (peerA ss a z).size := by rw [peerA_size _ _ _ hsn]; exact Try.size34
  have sK : (Try.prog.info? 32).map (·.size) = some (idA ks).size := by rw [idA_size, hkn]; exact Try.size32
  obtain ⟨N, hrun, hN⟩ := node_of ss hsn a z
  have HR : Hid (∀ w, (Instr.build 92 #[(0, .agg (peerA ss a z))]).run Try.prog w = .ok (.agg N) w) := hrun
  have HN : Hid (∀ (j : Nat) (v : Value), (idL ss)[j]? = some v → N[j]? = some v) := hN
  clear hrun hN
  obtain ⟨q1, q2, q3, q4⟩ := three_new w (.cells (peerA ss a z) 34) (.cells (idA ks) 32) (.cells N 92)
  have Q : Hid (_ ∧ _ ∧ _ ∧ _) := ⟨q2, q3, q4, (((Below.refl _ w).alloc (Nat.le_refl _) (.cells (peerA ss a z) 34)).alloc (by simp) (.cells (idA ks) 32)).alloc (by simp; omega) (.cells N 92)⟩
  clear q1 q2 q3 q4
  go_enter Try.func13, Try.ntmps13
  go_upto_region 1 with fail
  refine wp_region_lit ?_
  refine wpList_load_row_w (by rfl) 34 (.tmp 3) rfl _ rfl 34 (peerA ss a z) (0, 0) _ (heap_alloc2_old _ _ _) Try.underlying34 rfl sP ?_
  simp only [Act.put, List.setIfInBounds_toArray, List.set_cons_zero, List.set_cons_succ]
  refine wpList_build1 (by rfl) 92 0 (.tmp 8) rfl _ _ rfl (HR.out _) ?_
  simp only [Act.put, List.setIfInBounds_toArray, List.set_cons_zero, List.set_cons_succ]
  clear HR
  go_upto_region 2 with fail
  generalize ((w.alloc (.cells (peerA ss a z) 34)).alloc (.cells (idA ks) 32)).alloc (.cells N 92) = W at *
  obtain ⟨q2, q3, q4, qb⟩ := Q.out
  clear Q
  have HB : Hid (Below w.heap.size w W) := qb
  have HS : Hid (w.heap.size ≤ W.heap.size) := qb.size
  have HW : Hid (W.rangeAt (w.heap.size + 1 + 1) 0 (idL ss)) := fun j v hj => by rw [Nat.zero_add, cell_of_row _ _ _ _ _ _ q3]; exact HN.out j v hj
  have H2 : Hid (W.heap[w.heap.size + 1]? = some (.cells (idA ks) 32 (0, 0))) := q2
  clear q2 q3 q4 qb HN
  go_wp2_with (refine wpList_load_row_w (by rfl) 32 (.tmp 4) rfl _ rfl 32 (idA ks) (0, 0) _ H2.out Try.underlying32 rfl sK ?_)
  refine (onArc_nil _ ks W).mono ?_
  rintro e w1 ⟨rfl, hb1⟩
  go_wp2_with fail
  go_ret
  exact ⟨rfl, HB.out.trans (hb1.mono HS.out)⟩

set_option maxRecDepth 100000 in
set_option maxHeartbeats 1000000 in
theorem zzonArc_some (pb : Nat) (ss ks ps : List Int) (a z : ByteArray) (w : World) (hsn : ss.length = 20) (hkn : ks.length = 20) (hpn : ps.length = 20) (bs : Bytes ss) (bk : Bytes ks) (bp : Bytes ps)
    (hp : w.rangeAt pb 0 (idL ps)) :
    Calls Try.prog 13 #[.agg (peerA ss a z), .agg (idA ks), .pointer (some ⟨pb, 0, none⟩)] w fun e w' => e = .returned (.bool (inArc (val ks) (val ps) (val ss))) ∧ Below w.heap.size w w' := by
  have HP : Hid (w.rangeAt pb 0 (idL ps)) := hp
  clear hp
  have sP : (Try.prog.info? 34).map (·.size) = some (peerA ss a z).size := by rw [peerA_size _ _ _ hsn]; exact Try.size34
  have sK : (Try.prog.info? 32).map (·.size) = some (idA ks).size := by rw [idA_size, hkn]; exact Try.size32
  obtain ⟨N, hrun, hN⟩ := node_of ss hsn a z
  have HR : Hid (∀ w, (Instr.build 92 #[(0, .agg (peerA ss a z))]).run Try.prog w = .ok (.agg N) w) := hrun
  have HN : Hid (∀ (j : Nat) (v : Value), (idL ss)[j]? = some v → N[j]? = some v) := hN
  clear hrun hN
  obtain ⟨q1, q2, q3, q4⟩ := three_new w (.cells (peerA ss a z) 34) (.cells (idA ks) 32) (.cells N 92)
  have Q : Hid (_ ∧ _ ∧ _ ∧ _) := ⟨q2, q3, q4, (((Below.refl _ w).alloc (Nat.le_refl _) (.cells (peerA ss a z) 34)).alloc (by simp) (.cells (idA ks) 32)).alloc (by simp; omega) (.cells N 92)⟩
  clear q1 q2 q3 q4
  go_enter Try.func13, Try.ntmps13
  go_upto_region 1 with fail
  refine wp_region_lit ?_
  refine wpList_load_row_w (by rfl) 34 (.tmp 3) rfl _ rfl 34 (peerA ss a z) (0, 0) _ (heap_alloc2_old _ _ _) Try.underlying34 rfl sP ?_
  simp only [Act.put, List.setIfInBounds_toArray, List.set_cons_zero, List.set_cons_succ]
  refine wpList_build1 (by rfl) 92 0 (.tmp 8) rfl _ _ rfl (HR.out _) ?_
  simp only [Act.put, List.setIfInBounds_toArray, List.set_cons_zero, List.set_cons_succ]
  clear HR
  go_upto_region 2 with fail
  generalize ((w.alloc (.cells (peerA ss a z) 34)).alloc (.cells (idA ks) 32)).alloc (.cells N 92) = W at *
  obtain ⟨q2, q3, q4, qb⟩ := Q.out
  clear Q
  have HB : Hid (Below w.heap.size w W) := qb
  have HS : Hid (w.heap.size ≤ W.heap.size) := qb.size
  have HW : Hid (W.rangeAt (w.heap.size + 1 + 1) 0 (idL ss)) := fun j v hj => by rw [Nat.zero_add, cell_of_row _ _ _ _ _ _ q3]; exact HN.out j v hj
  have H2 : Hid (W.heap[w.heap.size + 1]? = some (.cells (idA ks) 32 (0, 0))) := q2
  clear q2 q3 q4 qb HN
  go_wp2_with (refine wpList_load_row_w (by rfl) 32 (.tmp 4) rfl _ rfl 32 (idA ks) (0, 0) _ H2.out Try.underlying32 rfl sK ?_)
  refine (onArc_some (w.heap.size + 1 + 1) pb ks ps ss W hkn hpn hsn bk bp bs (fun j v hj => (HB.out.cell (World.block_lt_of_cell? w _ (HP.out j v hj))).trans (HP.out j v hj)) HW.out).mono ?_
  rintro e w1 ⟨rfl, hb1⟩
  go_wp2_with fail
  go_ret
  exact ⟨rfl, HB.out.trans (hb1.mono HS.out)⟩
end Go.Proofs.Qxb6605895a
