/-
  The walk of FnOnArcSplitsRingWithPredecessor (6).
-/
import Derived.Test.Qxb6605895aEqId
namespace Go.Proofs.Qxb6605895a
open Go.RowKit
set_option linter.unusedSimpArgs false

theorem Try.size28 : (Try.prog.info? 28).map (·.size) = some 22 := by kernel_rfl

/-- A block that lies in w lies in what has come of it. -/
theorem blk_below {w w' : World} {i : Nat} {o : Obj} (h : Hid (w.heap[i]? = some o)) (hb : Below w.heap.size w w') : Hid (w'.heap[i]? = some o) := by
  show w'.heap[i]? = some o
  rw [hb.block i (Array.getElem?_eq_some_iff.1 h.out).1]; exact h.out

theorem bel_trans {B : Nat} {a b c : World} (h : Hid (Below B a b)) (hB : B ≤ a.heap.size) (k : Below b.heap.size b c) : Hid (Below B a c) := by
  exact h.out.trans (k.mono (Nat.le_trans hB h.out.size))

theorem rng_row {w : World} {b : Nat} {t : TypeId} {xs : List Int} {a z : ByteArray} (h : xs.length = 20) (hg : Hid (w.heap[b]? = some (.cells (peerA xs a z) t (0, 0)))) : w.rangeAt b 0 (idL xs) := (peerAt_row h hg.out).1

theorem alloc_store_below {w w' : World} {o : Obj} (Hg : Hid ((w.alloc o).grownBy w' (some w.heap.size))) : Below w.heap.size w w' :=
  ((Below.refl w.heap.size w).alloc (Nat.le_refl _) o).grown Hg.out (by simp) (by intro k hk; cases hk; exact Nat.le_refl _)

set_option maxRecDepth 100000 in
set_option maxHeartbeats 1000000 in
theorem split_nil (ss ks : List Int) (a z : ByteArray) (w : World) (hsn : ss.length = 20) (hkn : ks.length = 20) (h : a.size + z.size ≤ 1048576) :
    Calls Try.prog 6 #[.agg (peerA ss a z), .agg (idA ks), .pointer none] w fun e w' => e = .returned (.bool true) ∧ Below w.heap.size w w' := by
  have s28 : (Try.prog.info? 28).map (·.size) = some (peerA ss a z).size := by rw [peerA_size _ _ _ hsn]; exact Try.size28
  have s34 : (Try.prog.info? 34).map (·.size) = some (peerA ss a z).size := by rw [peerA_size _ _ _ hsn]; exact Try.size34
  have s26 : (Try.prog.info? 26).map (·.size) = some (idA ks).size := by rw [idA_size, hkn]; exact Try.size26
  have iS : (Try.prog.info? 26).map (·.size) = some (idL ss).length := by rw [idL_length, hsn]; exact Try.size26
  have hd : decide (a.size + z.size ≤ 1048576) = true := decide_eq_true h
  have Q : Hid (_ ∧ _ ∧ _) := ⟨heap_alloc2_old w (.cells (peerA ss a z) 28) (.cells (idA ks) 26), heap_alloc2_new w (.cells (peerA ss a z) 28) (.cells (idA ks) 26), ((Below.refl _ w).alloc (Nat.le_refl _) (.cells (peerA ss a z) 28)).alloc (by simp) (.cells (idA ks) 26)⟩
  go_enter Try.func6, Try.ntmps6
  go_upto_region 1 with fail
  generalize (w.alloc (.cells (peerA ss a z) 28)).alloc (.cells (idA ks) 26) = W at *
  obtain ⟨q1, q2, qb⟩ := Q.out
  have H1 : Hid (W.heap[w.heap.size]? = some (.cells (peerA ss a z) 28 (0, 0))) := q1
  have H2 : Hid (W.heap[w.heap.size + 1]? = some (.cells (idA ks) 26 (0, 0))) := q2
  have HB : Hid (Below w.heap.size w W) := qb
  clear Q q1 q2 qb
  go_wp2_with (first | (refine wpList_load_row_w (by rfl) 28 (.tmp 3) rfl _ rfl 28 (peerA ss a z) (0, 0) _ H1.out Try.underlying28 rfl s28 ?_) | (refine wpList_load_row_w (by rfl) 26 (.tmp 4) rfl _ rfl 26 (idA ks) (0, 0) _ H2.out Try.underlying26 rfl s26 ?_))
  refine (bytes17_nil ss ks a z W hsn (by omega) (by omega)).mono ?_
  rw [hd]
  rintro e W1 ⟨rfl, hb1⟩
  replace H1 := blk_below H1 hb1
  replace H2 := blk_below H2 hb1
  replace HB := bel_trans HB (Nat.le_refl _) hb1
  clear hb1
  go_wp2_with (first | (refine wpList_load_row_w (by rfl) 28 (.tmp 3) rfl _ rfl 28 (peerA ss a z) (0, 0) _ H1.out Try.underlying28 rfl s28 ?_) | (refine wpList_load_row_w (by rfl) 26 (.tmp 4) rfl _ rfl 26 (idA ks) (0, 0) _ H2.out Try.underlying26 rfl s26 ?_))
  refine (peerBytes_nil ss a z W1 hsn h).mono ?_
  rintro e W2 ⟨rfl, hb2⟩
  replace H1 := blk_below H1 hb2
  replace H2 := blk_below H2 hb2
  replace HB := bel_trans HB (Nat.le_refl _) hb2
  clear hb2
  go_wp2_with (first | (refine wpList_load_row_w (by rfl) 28 (.tmp 3) rfl _ rfl 28 (peerA ss a z) (0, 0) _ H1.out Try.underlying28 rfl s28 ?_) | (refine wpList_load_row_w (by rfl) 26 (.tmp 4) rfl _ rfl 26 (idA ks) (0, 0) _ H2.out Try.underlying26 rfl s26 ?_))
  refine (toPeer_any ss a z W2 hsn).mono ?_
  rintro e W3 ⟨rfl, hb3⟩
  replace H1 := blk_below H1 hb3
  replace H2 := blk_below H2 hb3
  replace HB := bel_trans HB (Nat.le_refl _) hb3
  clear hb3
  go_wp2_with (first | (refine wpList_store_row' rfl 34 (.tmp 7) (.tmp 24) rfl W3.heap.size 34 zeroPeer (peerA ss a z) rfl rfl (heap_alloc_new _ _) (by rw [peerA_size _ _ _ hsn, zeroPeer_size]) s34 (peerA_one _ _ _) ?_; intro W4 H3 Hg; replace H1 := blk_below H1 (alloc_store_below Hg); replace H2 := blk_below H2 (alloc_store_below Hg); replace HB := bel_trans HB (Nat.le_refl _) (alloc_store_below Hg); clear Hg) | (refine wpList_load_row_w (by rfl) 34 (.tmp 7) rfl _ rfl 34 (peerA ss a z) (0, 0) _ H3.out Try.underlying34 rfl s34 ?_) | (refine wpList_load_row_w (by rfl) 26 (.tmp 4) rfl _ rfl 26 (idA ks) (0, 0) _ H2.out Try.underlying26 rfl s26 ?_))
  refine (zzonArc_nil ss ks a z W4 hsn hkn).mono ?_
  rintro e W5 ⟨rfl, hb5⟩
  replace H1 := blk_below H1 hb5
  replace H2 := blk_below H2 hb5
  replace H3 := blk_below H3 hb5
  replace HB := bel_trans HB (Nat.le_refl _) hb5
  clear hb5
  go_wp2_with (first | (refine wpList_load_row_w (by rfl) 34 (.tmp 7) rfl _ rfl 34 (peerA ss a z) (0, 0) _ H3.out Try.underlying34 rfl s34 ?_) | (refine wpList_load_mid_w (by rfl) 26 (.tmp 32) rfl w.heap.size 0 rfl (idL ss) _ (rng_row hsn H1) Try.underlying26 rfl iS ?_))
  rw [idL_arr]
  refine (zzonArc_nil ss ss a z W5 hsn hsn).mono ?_
  rintro e W6 ⟨rfl, hb6⟩
  replace HB := bel_trans HB (Nat.le_refl _) hb6
  clear hb6
  go_wp2_with fail
  go_ret
  exact ⟨rfl, HB.out⟩

theorem rng_below {w w' : World} {b o : Nat} {l : List Value} (h : Hid (w.rangeAt b o l)) (hb : Below w.heap.size w w') : Hid (w'.rangeAt b o l) := pAt_below h.out hb

set_option maxRecDepth 100000 in
set_option maxHeartbeats 4000000 in
theorem split_some (pb po : Nat) (ss ks ps : List Int) (a z pa pz : ByteArray) (w : World) (hsn : ss.length = 20) (hkn : ks.length = 20) (hpn : ps.length = 20) (bs : Bytes ss) (bk : Bytes ks) (bp : Bytes ps) (h : a.size + z.size + pa.size + pz.size ≤ 1048576)
    (hp : w.rangeAt pb po (peerL ps pa pz)) :
    Calls Try.prog 6 #[.agg (peerA ss a z), .agg (idA ks), .pointer (some ⟨pb, po, none⟩)] w fun e w' => e = .returned (.bool true) ∧ Below w.heap.size w w' := by
  have s28 : (Try.prog.info? 28).map (·.size) = some (peerA ss a z).size := by rw [peerA_size _ _ _ hsn]; exact Try.size28
  have s34 : (Try.prog.info? 34).map (·.size) = some (peerA ss a z).size := by rw [peerA_size _ _ _ hsn]; exact Try.size34
  have p34 : (Try.prog.info? 34).map (·.size) = some (peerA ps pa pz).size := by rw [peerA_size _ _ _ hpn]; exact Try.size34
  have s26 : (Try.prog.info? 26).map (·.size) = some (idA ks).size := by rw [idA_size, hkn]; exact Try.size26
  have iS : (Try.prog.info? 26).map (·.size) = some (idL ss).length := by rw [idL_length, hsn]; exact Try.size26
  have iP : (Try.prog.info? 26).map (·.size) = some (idL ps).length := by rw [idL_length, hpn]; exact Try.size26
  have iP28 : (Try.prog.info? 28).map (·.size) = some (peerL ps pa pz).length := by rw [peerL_length _ _ _ hpn]; exact Try.size28
  have iS34 : (Try.prog.info? 34).map (·.size) = some (peerL ss a z).length := by rw [peerL_length _ _ _ hsn]; exact Try.size34
  have hd : decide (a.size + z.size + pa.size + pz.size ≤ 1048576) = true := decide_eq_true h
  have Q : Hid (_ ∧ _ ∧ _) := ⟨heap_alloc2_old w (.cells (peerA ss a z) 28) (.cells (idA ks) 26), heap_alloc2_new w (.cells (peerA ss a z) 28) (.cells (idA ks) 26), ((Below.refl _ w).alloc (Nat.le_refl _) (.cells (peerA ss a z) 28)).alloc (by simp) (.cells (idA ks) 26)⟩
  go_enter Try.func6, Try.ntmps6
  go_upto_region 1 with fail
  generalize (w.alloc (.cells (peerA ss a z) 28)).alloc (.cells (idA ks) 26) = W at *
  obtain ⟨q1, q2, qb⟩ := Q.out
  have H1 : Hid (W.heap[w.heap.size]? = some (.cells (peerA ss a z) 28 (0, 0))) := q1
  have H2 : Hid (W.heap[w.heap.size + 1]? = some (.cells (idA ks) 26 (0, 0))) := q2
  have HP : Hid (W.rangeAt pb po (peerL ps pa pz)) := pAt_below hp qb
  have HB : Hid (Below w.heap.size w W) := qb
  clear Q q1 q2 qb hp
  go_wp2_with (first | (refine wpList_load_row_w (by rfl) 28 (.tmp 3) rfl _ rfl 28 (peerA ss a z) (0, 0) _ H1.out Try.underlying28 rfl s28 ?_) | (refine wpList_load_row_w (by rfl) 26 (.tmp 4) rfl _ rfl 26 (idA ks) (0, 0) _ H2.out Try.underlying26 rfl s26 ?_))
  refine (bytes17_some pb po ss ks ps a z pa pz W hsn hpn (by omega) (by omega) (by omega) (by omega) HP.out).mono ?_
  rw [hd]
  rintro e W1 ⟨rfl, hb⟩
  replace H1 := blk_below H1 hb
  replace H2 := blk_below H2 hb
  replace HP := rng_below HP hb
  replace HB := bel_trans HB (Nat.le_refl _) hb
  clear hb
  go_wp2_with (first | (refine wpList_load_row_w (by rfl) 28 (.tmp 3) rfl _ rfl 28 (peerA ss a z) (0, 0) _ H1.out Try.underlying28 rfl s28 ?_) | (refine wpList_load_row_w (by rfl) 26 (.tmp 4) rfl _ rfl 26 (idA ks) (0, 0) _ H2.out Try.underlying26 rfl s26 ?_))
  refine (peerBytes_some pb po ss ps a z pa pz W1 hsn hpn h HP.out).mono ?_
  rintro e W2 ⟨rfl, hb⟩
  replace H1 := blk_below H1 hb
  replace H2 := blk_below H2 hb
  replace HP := rng_below HP hb
  replace HB := bel_trans HB (Nat.le_refl _) hb
  clear hb
  go_wp2_with (first | (refine wpList_load_row_w (by rfl) 28 (.tmp 3) rfl _ rfl 28 (peerA ss a z) (0, 0) _ H1.out Try.underlying28 rfl s28 ?_) | (refine wpList_load_row_w (by rfl) 26 (.tmp 4) rfl _ rfl 26 (idA ks) (0, 0) _ H2.out Try.underlying26 rfl s26 ?_))
  refine (toPeer_any ss a z W2 hsn).mono ?_
  rintro e W3 ⟨rfl, hb⟩
  replace H1 := blk_below H1 hb
  replace H2 := blk_below H2 hb
  replace HP := rng_below HP hb
  replace HB := bel_trans HB (Nat.le_refl _) hb
  clear hb
  go_wp2_with (first | (refine wpList_store_row' rfl 34 (.tmp 7) (.tmp 24) rfl W3.heap.size 34 zeroPeer (peerA ss a z) rfl rfl (heap_alloc_new _ _) (by rw [peerA_size _ _ _ hsn, zeroPeer_size]) s34 (peerA_one _ _ _) ?_; intro W4 H3 Hg; replace H1 := blk_below H1 (alloc_store_below Hg); replace H2 := blk_below H2 (alloc_store_below Hg); replace HP := rng_below HP (alloc_store_below Hg); replace HB := bel_trans HB (Nat.le_refl _) (alloc_store_below Hg); clear Hg) | (refine wpList_load_mid_w (by rfl) 28 (.tmp 37) rfl pb po rfl (peerL ps pa pz) _ HP.out Try.underlying28 rfl iP28 ?_))
  rw [show (peerL ps pa pz).toArray = peerA ps pa pz from rfl]
  refine (toPeer_any ps pa pz W4 hpn).mono ?_
  rintro e W5 ⟨rfl, hb⟩
  replace H1 := blk_below H1 hb
  replace H2 := blk_below H2 hb
  replace HP := rng_below HP hb
  replace HB := bel_trans HB (Nat.le_refl _) hb
  replace H3 := blk_below H3 hb
  clear hb
  go_wp2_with (first | (refine wpList_store_row' rfl 34 (.tmp 8) (.tmp 39) rfl W5.heap.size 34 zeroPeer (peerA ps pa pz) rfl rfl (heap_alloc_new _ _) (by rw [peerA_size _ _ _ hpn, zeroPeer_size]) p34 (peerA_one _ _ _) ?_; intro W6 H4 Hg; replace H1 := blk_below H1 (alloc_store_below Hg); replace H2 := blk_below H2 (alloc_store_below Hg); replace HP := rng_below HP (alloc_store_below Hg); replace HB := bel_trans HB (Nat.le_refl _) (alloc_store_below Hg); replace H3 := blk_below H3 (alloc_store_below Hg); clear Hg) | (refine wpList_load_row_w (by rfl) 28 (.tmp 3) rfl _ rfl 28 (peerA ss a z) (0, 0) _ H1.out Try.underlying28 rfl s28 ?_))
  refine (toPeer_any ss a z W6 hsn).mono ?_
  rintro e W7 ⟨rfl, hb⟩
  replace H1 := blk_below H1 hb
  replace H2 := blk_below H2 hb
  replace HP := rng_below HP hb
  replace HB := bel_trans HB (Nat.le_refl _) hb
  replace H3 := blk_below H3 hb
  replace H4 := blk_below H4 hb
  clear hb
  go_wp2_with (first | (refine wpList_store_row' rfl 34 (.tmp 9) (.tmp 41) rfl W7.heap.size 34 zeroPeer (peerA ss a z) rfl rfl (heap_alloc_new _ _) (by rw [peerA_size _ _ _ hsn, zeroPeer_size]) s34 (peerA_one _ _ _) ?_; intro W8 H5 Hg; replace H1 := blk_below H1 (alloc_store_below Hg); replace H2 := blk_below H2 (alloc_store_below Hg); replace HP := rng_below HP (alloc_store_below Hg); replace HB := bel_trans HB (Nat.le_refl _) (alloc_store_below Hg); replace H3 := blk_below H3 (alloc_store_below Hg); replace H4 := blk_below H4 (alloc_store_below Hg); clear Hg) | (refine wpList_load_row_w (by rfl) 34 (.tmp 7) rfl _ rfl 34 (peerA ss a z) (0, 0) _ H3.out Try.underlying34 rfl s34 ?_) | (refine wpList_load_row_w (by rfl) 26 (.tmp 4) rfl _ rfl 26 (idA ks) (0, 0) _ H2.out Try.underlying26 rfl s26 ?_))
  refine (zzonArc_some W5.heap.size ss ks ps a z W8 hsn hkn hpn bs bk bp (rng_row hpn H4)).mono ?_
  rintro e W9 ⟨rfl, hb⟩
  replace H1 := blk_below H1 hb
  replace H2 := blk_below H2 hb
  replace HP := rng_below HP hb
  replace HB := bel_trans HB (Nat.le_refl _) hb
  replace H3 := blk_below H3 hb
  replace H4 := blk_below H4 hb
  replace H5 := blk_below H5 hb
  clear hb
  go_wp2_with (first | (refine wpList_load_row_w (by rfl) 34 (.tmp 8) rfl _ rfl 34 (peerA ps pa pz) (0, 0) _ H4.out Try.underlying34 rfl p34 ?_) | (refine wpList_load_row_w (by rfl) 26 (.tmp 4) rfl _ rfl 26 (idA ks) (0, 0) _ H2.out Try.underlying26 rfl s26 ?_))
  refine (zzonArc_some W7.heap.size ps ks ss pa pz W9 hpn hkn hsn bp bk bs (rng_row hsn H5)).mono ?_
  rintro e W10 ⟨rfl, hb⟩
  replace H1 := blk_below H1 hb
  replace H2 := blk_below H2 hb
  replace HP := rng_below HP hb
  replace HB := bel_trans HB (Nat.le_refl _) hb
  replace H3 := blk_below H3 hb
  replace H4 := blk_below H4 hb
  replace H5 := blk_below H5 hb
  clear hb
  go_wp2_with (first | (refine wpList_load_row_w (by rfl) 34 (.tmp 7) rfl _ rfl 34 (peerA ss a z) (0, 0) _ H3.out Try.underlying34 rfl s34 ?_) | (refine wpList_load_mid_w (by rfl) 26 (.tmp 49) rfl w.heap.size 0 rfl (idL ss) _ (rng_row hsn H1) Try.underlying26 rfl iS ?_))
  rw [idL_arr]
  refine (zzonArc_some W5.heap.size ss ss ps a z W10 hsn hsn hpn bs bs bp (rng_row hpn H4)).mono ?_
  rintro e W11 ⟨rfl, hb⟩
  replace H1 := blk_below H1 hb
  replace H2 := blk_below H2 hb
  replace HP := rng_below HP hb
  replace HB := bel_trans HB (Nat.le_refl _) hb
  replace H3 := blk_below H3 hb
  replace H4 := blk_below H4 hb
  replace H5 := blk_below H5 hb
  clear hb
  go_wp2_with fail
  have r1 : W11.rangeAt W3.heap.size 0 (peerL ss a z) := fun j v hj => by rw [Nat.zero_add, cell_of_row _ _ _ _ _ _ H3.out]; simpa [peerA] using hj
  have r2 : W11.rangeAt pb po (idL ps) := (pAt_parts hpn HP.out).1
  refine wp_region_noPanic ?_
  refine wp_region_held_drew (S := fun w' => w'.rangeAt W3.heap.size 0 (peerL ss a z) ∧ w'.rangeAt pb po (idL ps)) (by kernel_rfl) ⟨r1, r2⟩ (fun hHeld => ?_)
  refine takeLoad 0 (some 52) rfl rfl (by kernel_rfl) (by kernel_rfl) (by kernel_rfl) (by rfl) 34 (.tmp 7) rfl W3.heap.size 0 rfl (peerL ss a z) _ (fun w h => h.1) Try.underlying34 rfl iS34 (by assumption) ?_
  simp only [Act.put, List.setIfInBounds_toArray, List.set_cons_zero, List.set_cons_succ]
  refine takeOp 1 (some 53) rfl rfl (by kernel_rfl) (by kernel_rfl) (by kernel_rfl) (by rfl) (v := ?_) ?_ (by assumption) ?_
  rotate_left
  · intro w hSw; (try dsimp only at hSw); go_simp
    try with_reducible rfl
  simp only [Act.put, List.setIfInBounds_toArray, List.set_cons_zero, List.set_cons_succ]
  refine takeOp 2 (some 54) rfl rfl (by kernel_rfl) (by kernel_rfl) (by kernel_rfl) (by rfl) (v := ?_) ?_ (by assumption) ?_
  rotate_left
  · intro w hSw; (try dsimp only at hSw); go_simp
    try with_reducible rfl
  simp only [Act.put, List.setIfInBounds_toArray, List.set_cons_zero, List.set_cons_succ]
  refine takeOp 3 (some 55) rfl rfl (by kernel_rfl) (by kernel_rfl) (by kernel_rfl) (by rfl) (v := ?_) ?_ (by assumption) ?_
  rotate_left
  · intro w hSw; (try dsimp only at hSw); go_simp
    try with_reducible rfl
  simp only [Act.put, List.setIfInBounds_toArray, List.set_cons_zero, List.set_cons_succ]
  refine takeLoad 4 (some 56) rfl rfl (by kernel_rfl) (by kernel_rfl) (by kernel_rfl) (by rfl) 26 (.tmp 55) rfl pb po rfl (idL ps) _ (fun w h => h.2) Try.underlying26 rfl iP (by assumption) ?_
  simp only [Act.put, List.setIfInBounds_toArray, List.set_cons_zero, List.set_cons_succ]
  refine wpAnyH_ready (rs := [5]) (by kernel_rfl) (by simp) ?_
  refine AllReadyH.cons rfl (fun K hK => ?_) AllReadyH.nil
  go_simp
  refine (zzonArc_some W5.heap.size ss ps ps a z W11.drew hsn hpn hpn bs bp bp (rng_row hpn H4)).mono ?_
  rintro e W12 ⟨rfl, hb⟩
  refine hK.out _ _ ⟨pAt_below (w := W11.drew) r1 hb, pAt_below (w := W11.drew) r2 hb⟩ (fun hHeld => ?_)
  clear hK K
  try simp only [Act.put, List.setIfInBounds_toArray, List.set_cons_zero, List.set_cons_succ]
  refine takeOp 6 (some 13) rfl rfl (by kernel_rfl) (by kernel_rfl) (by kernel_rfl) (by rfl) (v := ?_) ?_ (by assumption) ?_
  rotate_left
  · intro w hSw; (try dsimp only at hSw); go_simp
    try with_reducible rfl
  simp only [Act.put, List.setIfInBounds_toArray, List.set_cons_zero, List.set_cons_succ]
  refine wpAnyH_done (by kernel_rfl) ?_ _
  refine NoPanic.normal ?_
  have hb' : Below W11.heap.size W11 W12 := (Below.refl _ W11).drew.trans hb
  replace H1 := blk_below H1 hb'
  replace H2 := blk_below H2 hb'
  replace HP := rng_below HP hb'
  replace HB := bel_trans HB (Nat.le_refl _) hb'
  replace H3 := blk_below H3 hb'
  replace H4 := blk_below H4 hb'
  replace H5 := blk_below H5 hb'
  clear hb hb' r1 r2 hHeld
  go_wp2_with fail
  have r1 : W12.rangeAt pb po (idL ps) := (pAt_parts hpn HP.out).1
  have r2 : W12.rangeAt w.heap.size 0 (idL ss) := rng_row hsn H1
  have heq := Try.eqId ps ss hpn hsn bp bs
  rw [← idL_arr, ← idL_arr] at heq
  by_cases hv : val ps = val ss
  · rw [decide_eq_true hv] at heq
    have e1 := arc_eq (val ks) (val ps) (val ss) hv
    have e2 := arc_eq (val ks) (val ss) (val ps) hv.symm
    have e3 := arc_eq (val ss) (val ps) (val ss) hv
    have e4 := arc_eq (val ps) (val ps) (val ss) hv
    clear hv
    simp only [e1, e2, e3, e4]
    refine wp_region_noPanic ?_
    refine wp_region_held_drew (S := fun w' => w'.rangeAt pb po (idL ps) ∧ w'.rangeAt w.heap.size 0 (idL ss)) (by kernel_rfl) ⟨r1, r2⟩ (fun hHeld => ?_)
    refine takeOp 0 (some 58) rfl rfl (by kernel_rfl) (by kernel_rfl) (by kernel_rfl) (by rfl) (v := ?_) ?_ (by assumption) ?_
    rotate_left
    · intro w hSw; (try dsimp only at hSw); go_simp
      try with_reducible rfl
    simp only [Act.put, List.setIfInBounds_toArray, List.set_cons_zero, List.set_cons_succ]
    refine takeOp 1 (some 59) rfl rfl (by kernel_rfl) (by kernel_rfl) (by kernel_rfl) (by rfl) (v := ?_) ?_ (by assumption) ?_
    rotate_left
    · intro w hSw; (try dsimp only at hSw); go_simp
      try with_reducible rfl
    simp only [Act.put, List.setIfInBounds_toArray, List.set_cons_zero, List.set_cons_succ]
    refine takeOp 2 (some 60) rfl rfl (by kernel_rfl) (by kernel_rfl) (by kernel_rfl) (by rfl) (v := ?_) ?_ (by assumption) ?_
    rotate_left
    · intro w hSw; (try dsimp only at hSw); go_simp
      try with_reducible rfl
    simp only [Act.put, List.setIfInBounds_toArray, List.set_cons_zero, List.set_cons_succ]
    refine takeLoad 3 (some 61) rfl rfl (by kernel_rfl) (by kernel_rfl) (by kernel_rfl) (by rfl) 26 (.tmp 60) rfl pb po rfl (idL ps) _ (fun w h => h.1) Try.underlying26 rfl iP (by assumption) ?_
    simp only [Act.put, List.setIfInBounds_toArray, List.set_cons_zero, List.set_cons_succ]
    refine takeOp 4 (some 62) rfl rfl (by kernel_rfl) (by kernel_rfl) (by kernel_rfl) (by rfl) (v := ?_) ?_ (by assumption) ?_
    rotate_left
    · intro w hSw; (try dsimp only at hSw); go_simp
      try with_reducible rfl
    simp only [Act.put, List.setIfInBounds_toArray, List.set_cons_zero, List.set_cons_succ]
    refine takeLoad 5 (some 63) rfl rfl (by kernel_rfl) (by kernel_rfl) (by kernel_rfl) (by rfl) 26 (.tmp 62) rfl w.heap.size 0 rfl (idL ss) _ (fun w h => h.2) Try.underlying26 rfl iS (by assumption) ?_
    simp only [Act.put, List.setIfInBounds_toArray, List.set_cons_zero, List.set_cons_succ]
    refine takeOp 6 (some 64) rfl rfl (by kernel_rfl) (by kernel_rfl) (by kernel_rfl) (by rfl) (v := ?_) ?_ (by assumption) ?_
    rotate_left
    · intro w hSw; (try dsimp only at hSw); go_simp
      try with_reducible rfl
    simp only [Act.put, List.setIfInBounds_toArray, List.set_cons_zero, List.set_cons_succ]
    refine wpAnyH_done (by kernel_rfl) ?_ _
    refine NoPanic.normal ?_
    go_wp2_with fail
    go_ret
    exact ⟨rfl, HB.out.drew⟩
  · rw [decide_eq_false hv] at heq
    obtain ⟨e1, e3, e4⟩ := arc_ne (val ks) (val ps) (val ss) hv
    have e5 : inArc (val ks) (val ss) (val ps) = !inArc (val ks) (val ps) (val ss) := by
      revert e1
      cases inArc (val ks) (val ps) (val ss) <;> cases inArc (val ks) (val ss) (val ps) <;> simp
    clear hv e1
    simp only [e5, e3, e4]
    clear e5 e3 e4
    generalize inArc (val ks) (val ps) (val ss) = b
    refine wp_region_noPanic ?_
    refine wp_region_held_drew (S := fun w' => w'.rangeAt pb po (idL ps) ∧ w'.rangeAt w.heap.size 0 (idL ss)) (by kernel_rfl) ⟨r1, r2⟩ (fun hHeld => ?_)
    refine takeOp 0 (some 58) rfl rfl (by kernel_rfl) (by kernel_rfl) (by kernel_rfl) (by rfl) (v := ?_) ?_ (by assumption) ?_
    rotate_left
    · intro w hSw; (try dsimp only at hSw); go_simp
      try with_reducible rfl
    simp only [Act.put, List.setIfInBounds_toArray, List.set_cons_zero, List.set_cons_succ]
    refine takeOp 1 (some 59) rfl rfl (by kernel_rfl) (by kernel_rfl) (by kernel_rfl) (by rfl) (v := ?_) ?_ (by assumption) ?_
    rotate_left
    · intro w hSw; (try dsimp only at hSw); go_simp
      try with_reducible rfl
    simp only [Act.put, List.setIfInBounds_toArray, List.set_cons_zero, List.set_cons_succ]
    refine takeOp 2 (some 60) rfl rfl (by kernel_rfl) (by kernel_rfl) (by kernel_rfl) (by rfl) (v := ?_) ?_ (by assumption) ?_
    rotate_left
    · intro w hSw; (try dsimp only at hSw); go_simp
      try with_reducible rfl
    simp only [Act.put, List.setIfInBounds_toArray, List.set_cons_zero, List.set_cons_succ]
    refine takeLoad 3 (some 61) rfl rfl (by kernel_rfl) (by kernel_rfl) (by kernel_rfl) (by rfl) 26 (.tmp 60) rfl pb po rfl (idL ps) _ (fun w h => h.1) Try.underlying26 rfl iP (by assumption) ?_
    simp only [Act.put, List.setIfInBounds_toArray, List.set_cons_zero, List.set_cons_succ]
    refine takeOp 4 (some 62) rfl rfl (by kernel_rfl) (by kernel_rfl) (by kernel_rfl) (by rfl) (v := ?_) ?_ (by assumption) ?_
    rotate_left
    · intro w hSw; (try dsimp only at hSw); go_simp
      try with_reducible rfl
    simp only [Act.put, List.setIfInBounds_toArray, List.set_cons_zero, List.set_cons_succ]
    refine takeLoad 5 (some 63) rfl rfl (by kernel_rfl) (by kernel_rfl) (by kernel_rfl) (by rfl) 26 (.tmp 62) rfl w.heap.size 0 rfl (idL ss) _ (fun w h => h.2) Try.underlying26 rfl iS (by assumption) ?_
    simp only [Act.put, List.setIfInBounds_toArray, List.set_cons_zero, List.set_cons_succ]
    refine takeOp 6 (some 64) rfl rfl (by kernel_rfl) (by kernel_rfl) (by kernel_rfl) (by rfl) (v := ?_) ?_ (by assumption) ?_
    rotate_left
    · intro w hSw; (try dsimp only at hSw); go_simp
      try with_reducible rfl
    simp only [Act.put, List.setIfInBounds_toArray, List.set_cons_zero, List.set_cons_succ]
    refine wpAnyH_done (by kernel_rfl) ?_ _
    refine NoPanic.normal ?_
    cases b
    all_goals
      go_wp2_with fail
      go_ret
      exact ⟨rfl, HB.out.drew⟩
end Go.Proofs.Qxb6605895a
