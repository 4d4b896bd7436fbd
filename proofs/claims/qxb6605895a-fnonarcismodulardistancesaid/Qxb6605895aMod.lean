/-
  The walk of FnOnArcIsModularDistance (5).
-/
import Derived.Test.Qxb6605895aSplit
import Derived.Test.Qxb6605895aSubW
namespace Go.Proofs.Qxb6605895a
open Go.RowKit
set_option linter.unusedSimpArgs false
set_option linter.unusedVariables false

section
variable {P : Program}
theorem wp_store_row {op : Oper} {a : Act} {w : World} {K : Act → World → Prop} {Q : Exit → Act → World → Prop} (ty : TypeId) (x y : Operand) (ho : op.op = .store ty x y)
    (g : Nat) (t : TypeId) (cur cells : Array Value) (hx : a.eval x = .pointer (some ⟨g, 0, none⟩)) (hy : a.eval y = .agg cells)
    (hg : w.heap[g]? = some (.cells cur t (0, 0))) (hs : cells.size = cur.size) (hi : (P.info? ty).map (·.size) = some cells.size) (h1 : cells.all (·.oneCell') = true)
    (h : K (a.put op.dst undef) (w.setRow g cells)) : op.wp P a w K Q := by
  unfold Oper.wp execOp
  simp only [ho, hx, hy, Instr.storeAt, Instr.sureAddr, Sem.run_bind, Sem.run_pure, Result.andThen_ok, run_storeVar_row w g ty t cur cells hg hs hi h1]
  exact h

theorem wp_store_row' {op : Oper} {a : Act} {w : World} {K : Act → World → Prop} {Q : Exit → Act → World → Prop} (ty : TypeId) (x y : Operand) (ho : op.op = .store ty x y)
    (g : Nat) (t : TypeId) (cur cells : Array Value) (hx : a.eval x = .pointer (some ⟨g, 0, none⟩)) (hy : a.eval y = .agg cells)
    (hg : w.heap[g]? = some (.cells cur t (0, 0))) (hs : cells.size = cur.size) (hi : (P.info? ty).map (·.size) = some cells.size) (h1 : cells.all (·.oneCell') = true)
    (h : ∀ w', Hid (w'.heap[g]? = some (.cells cells t (0, 0))) → Hid (∀ n u, Below n u w → n ≤ g → Below n u w') → K (a.put op.dst undef) w') : op.wp P a w K Q :=
  wp_store_row ty x y ho g t cur cells hx hy hg hs hi h1 (h _ (setRow_heap w g _ _ t _ hg) (fun _ _ hb hn => below_setRow hb hn _))
end

theorem rng_id {w : World} {b : Nat} {t : TypeId} {xs : List Int} (hg : Hid (w.heap[b]? = some (.cells (idA xs) t (0, 0)))) : w.rangeAt b 0 (idL xs) := fun j v hj => by
  rw [Nat.zero_add, cell_of_row _ _ _ _ _ _ hg.out]; simpa [idA, idL] using hj

set_option maxRecDepth 100000 in
set_option maxHeartbeats 1000000 in
theorem mod_nil (ss ks : List Int) (a z : ByteArray) (w : World) (hsn : ss.length = 20) (hkn : ks.length = 20) (h : a.size + z.size ≤ 1048576) :
    Calls Try.prog 5 #[.agg (peerA ss a z), .agg (idA ks), .pointer none] w fun e w' => e = .returned (.bool true) ∧ Below w.heap.size w w' := by
  have s28 : (Try.prog.info? 28).map (·.size) = some (peerA ss a z).size := by rw [peerA_size _ _ _ hsn]; exact Try.size28
  have s34 : (Try.prog.info? 34).map (·.size) = some (peerA ss a z).size := by rw [peerA_size _ _ _ hsn]; exact Try.size34
  have s26 : (Try.prog.info? 26).map (·.size) = some (idA ks).size := by rw [idA_size, hkn]; exact Try.size26
  have hd : decide (a.size + z.size ≤ 1048576) = true := decide_eq_true h
  have Q : Hid (_ ∧ _ ∧ _) := ⟨heap_alloc2_old w (.cells (peerA ss a z) 28) (.cells (idA ks) 26), heap_alloc2_new w (.cells (peerA ss a z) 28) (.cells (idA ks) 26), ((Below.refl _ w).alloc (Nat.le_refl _) (.cells (peerA ss a z) 28)).alloc (by simp) (.cells (idA ks) 26)⟩
  go_enter Try.func5, Try.ntmps5
  go_upto_region 1 with fail
  generalize (w.alloc (.cells (peerA ss a z) 28)).alloc (.cells (idA ks) 26) = W at *
  obtain ⟨q1, q2, qb⟩ := Q.out
  have H1 : Hid (W.heap[w.heap.size]? = some (.cells (peerA ss a z) 28 (0, 0))) := q1
  have H2 : Hid (W.heap[w.heap.size + 1]? = some (.cells (idA ks) 26 (0, 0))) := q2
  have HB : Hid (Below w.heap.size w W) := qb
  clear Q q1 q2 qb
  go_wp2_with (first | (refine wpList_load_row_w (by rfl) 28 (.tmp 3) rfl _ rfl 28 (peerA ss a z) (0, 0) _ H1.out Try.underlying28 rfl s28 ?_) | (refine wpList_load_row_w (by rfl) 26 (.tmp 4) rfl _ rfl 26 (idA ks) (0, 0) _ H2.out Try.underlying26 rfl s26 ?_))
  refine (bytes10_nil ss ks a z W hsn (by omega) (by omega)).mono ?_
  rw [hd]
  rintro e W1 ⟨rfl, hb⟩
  replace H1 := blk_below H1 hb
  replace H2 := blk_below H2 hb
  replace HB := bel_trans HB (Nat.le_refl _) hb
  clear hb
  go_wp2_with (first | (refine wpList_load_row_w (by rfl) 28 (.tmp 3) rfl _ rfl 28 (peerA ss a z) (0, 0) _ H1.out Try.underlying28 rfl s28 ?_) | (refine wpList_load_row_w (by rfl) 26 (.tmp 4) rfl _ rfl 26 (idA ks) (0, 0) _ H2.out Try.underlying26 rfl s26 ?_))
  refine (peerBytes_nil ss a z W1 hsn h).mono ?_
  rintro e W2 ⟨rfl, hb⟩
  replace H1 := blk_below H1 hb
  replace H2 := blk_below H2 hb
  replace HB := bel_trans HB (Nat.le_refl _) hb
  clear hb
  go_wp2_with (first | (refine wpList_load_row_w (by rfl) 28 (.tmp 3) rfl _ rfl 28 (peerA ss a z) (0, 0) _ H1.out Try.underlying28 rfl s28 ?_) | (refine wpList_load_row_w (by rfl) 26 (.tmp 4) rfl _ rfl 26 (idA ks) (0, 0) _ H2.out Try.underlying26 rfl s26 ?_))
  refine (toPeer_any ss a z W2 hsn).mono ?_
  rintro e W3 ⟨rfl, hb⟩
  replace H1 := blk_below H1 hb
  replace H2 := blk_below H2 hb
  replace HB := bel_trans HB (Nat.le_refl _) hb
  clear hb
  go_wp2_with (first | (refine wpList_store_row' rfl 34 (.tmp 7) (.tmp 24) rfl W3.heap.size 34 zeroPeer (peerA ss a z) rfl rfl (heap_alloc_new _ _) (by rw [peerA_size _ _ _ hsn, zeroPeer_size]) s34 (peerA_one _ _ _) ?_; intro W4 H3 Hg; replace H1 := blk_below H1 (alloc_store_below Hg); replace H2 := blk_below H2 (alloc_store_below Hg); replace HB := bel_trans HB (Nat.le_refl _) (alloc_store_below Hg); clear Hg) | (refine wpList_load_row_w (by rfl) 34 (.tmp 7) rfl _ rfl 34 (peerA ss a z) (0, 0) _ H3.out Try.underlying34 rfl s34 ?_) | (refine wpList_load_row_w (by rfl) 26 (.tmp 4) rfl _ rfl 26 (idA ks) (0, 0) _ H2.out Try.underlying26 rfl s26 ?_))
  refine (zzonArc_nil ss ks a z W4 hsn hkn).mono ?_
  rintro e W5 ⟨rfl, hb⟩
  replace HB := bel_trans HB (Nat.le_refl _) hb
  clear hb
  go_wp2_with fail
  go_ret
  exact ⟨rfl, HB.out⟩

set_option maxRecDepth 100000 in
set_option maxHeartbeats 8000000 in
theorem mod_core (pb po : Nat) (ss ks ps D K : List Int) (bD bK bL g : Bool) (a z pa pz : ByteArray) (w : World) (hsn : ss.length = 20) (hkn : ks.length = 20) (hpn : ps.length = 20) (bs : Bytes ss) (bk : Bytes ks) (bp : Bytes ps) (h : a.size + z.size + pa.size + pz.size ≤ 1048576)
    (hp : w.rangeAt pb po (peerL ps pa pz)) (HDD : Hid ((subB ss ps).1 = D)) (HKK : Hid ((subB ks ps).1 = K)) (hDn : D.length = 20) (hKn : K.length = 20) (bbD : Bytes D) (bbK : Bytes K)
    (hD : Hid (decide (val D = 0) = bD)) (hK : Hid (decide (val K = 0) = bK)) (hL : Hid (decide (val K ≤ val D) = bL)) (hG : Hid (inArc (val ks) (val ps) (val ss) = g)) (hrel : Hid (g = (bD || (!bK && bL)))) :
    Calls Try.prog 5 #[.agg (peerA ss a z), .agg (idA ks), .pointer (some ⟨pb, po, none⟩)] w fun e w' => e = .returned (.bool true) ∧ Below w.heap.size w w' := by
  have s28 : (Try.prog.info? 28).map (·.size) = some (peerA ss a z).size := by rw [peerA_size _ _ _ hsn]; exact Try.size28
  have s34 : (Try.prog.info? 34).map (·.size) = some (peerA ss a z).size := by rw [peerA_size _ _ _ hsn]; exact Try.size34
  have s26 : (Try.prog.info? 26).map (·.size) = some (idA ks).size := by rw [idA_size, hkn]; exact Try.size26
  have p34 : (Try.prog.info? 34).map (·.size) = some (peerA ps pa pz).size := by rw [peerA_size _ _ _ hpn]; exact Try.size34
  have iS : (Try.prog.info? 26).map (·.size) = some (idL ss).length := by rw [idL_length, hsn]; exact Try.size26
  have iP : (Try.prog.info? 26).map (·.size) = some (idL ps).length := by rw [idL_length, hpn]; exact Try.size26
  have iK : (Try.prog.info? 26).map (·.size) = some (idL ks).length := by rw [idL_length, hkn]; exact Try.size26
  have iP28 : (Try.prog.info? 28).map (·.size) = some (peerL ps pa pz).length := by rw [peerL_length _ _ _ hpn]; exact Try.size28
  have sD : (Try.prog.info? 26).map (·.size) = some (idA D).size := by rw [idA_size, hDn]; exact Try.size26
  have sK : (Try.prog.info? 26).map (·.size) = some (idA K).size := by rw [idA_size, hKn]; exact Try.size26
  have zD : (idA D).size = zero20.size := by rw [idA_size, hDn]; rfl
  have zK : (idA K).size = zero20.size := by rw [idA_size, hKn]; rfl
  have hd : decide (a.size + z.size + pa.size + pz.size ≤ 1048576) = true := decide_eq_true h
  have Q : Hid (_ ∧ _ ∧ _) := ⟨heap_alloc2_old w (.cells (peerA ss a z) 28) (.cells (idA ks) 26), heap_alloc2_new w (.cells (peerA ss a z) 28) (.cells (idA ks) 26), ((Below.refl _ w).alloc (Nat.le_refl _) (.cells (peerA ss a z) 28)).alloc (by simp) (.cells (idA ks) 26)⟩
  go_enter Try.func5, Try.ntmps5
  go_upto_region 1 with fail
  generalize (w.alloc (.cells (peerA ss a z) 28)).alloc (.cells (idA ks) 26) = W at *
  obtain ⟨q1, q2, qb⟩ := Q.out
  have H1 : Hid (W.heap[w.heap.size]? = some (.cells (peerA ss a z) 28 (0, 0))) := q1
  have H2 : Hid (W.heap[w.heap.size + 1]? = some (.cells (idA ks) 26 (0, 0))) := q2
  have HB : Hid (Below w.heap.size w W) := qb
  have HP : Hid (W.rangeAt pb po (peerL ps pa pz)) := pAt_below hp qb
  clear Q q1 q2 qb hp
  go_wp2_with (first | (refine wpList_load_row_w (by rfl) 28 (.tmp 3) rfl _ rfl 28 (peerA ss a z) (0, 0) _ H1.out Try.underlying28 rfl s28 ?_) | (refine wpList_load_row_w (by rfl) 26 (.tmp 4) rfl _ rfl 26 (idA ks) (0, 0) _ H2.out Try.underlying26 rfl s26 ?_))
  refine (bytes10_some pb po ss ks ps a z pa pz W hsn hpn (by omega) (by omega) (by omega) (by omega) HP.out).mono ?_
  rw [hd]
  rintro e W1 ⟨rfl, hb⟩
  replace H1 := blk_below H1 hb
  replace H2 := blk_below H2 hb
  replace HP := rng_below HP hb
  replace HB := bel_trans HB (Nat.le_refl _) hb
  clear hb
  go_wp2_with (first | (refine wpList_load_row_w (by rfl) 28 (.tmp 3) rfl _ rfl 28 (peerA ss a z) (0, 0) _ H1.out Try.underlying28 rfl s28 ?_) | (refine wpList_load_row_w (by rfl) 26 (.tmp 4) rfl _ rfl 26 (idA ks) (0, 0) _ H2.out Try.underlying26 rfl s26 ?_))
  refine (peerBytes_some pb po ss ps a z pa pz W1 hsn hpn h HP.out).mono ?_
  rintro e W2 ⟨rfl, hb⟩
  replace H1 := blk_below H1 hb
  replace H2 := blk_below H2 hb
  replace HP := rng_below HP hb
  replace HB := bel_trans HB (Nat.le_refl _) hb
  clear hb
  go_wp2_with (first | (refine wpList_load_row_w (by rfl) 28 (.tmp 3) rfl _ rfl 28 (peerA ss a z) (0, 0) _ H1.out Try.underlying28 rfl s28 ?_) | (refine wpList_load_row_w (by rfl) 26 (.tmp 4) rfl _ rfl 26 (idA ks) (0, 0) _ H2.out Try.underlying26 rfl s26 ?_))
  refine (toPeer_any ss a z W2 hsn).mono ?_
  rintro e W3 ⟨rfl, hb⟩
  replace H1 := blk_below H1 hb
  replace H2 := blk_below H2 hb
  replace HP := rng_below HP hb
  replace HB := bel_trans HB (Nat.le_refl _) hb
  clear hb
  go_wp2_with (first | (refine wpList_store_row' rfl 34 (.tmp 7) (.tmp 24) rfl W3.heap.size 34 zeroPeer (peerA ss a z) rfl rfl (heap_alloc_new _ _) (by rw [peerA_size _ _ _ hsn, zeroPeer_size]) s34 (peerA_one _ _ _) ?_; intro W4 H3 Hg; replace H1 := blk_below H1 (alloc_store_below Hg); replace H2 := blk_below H2 (alloc_store_below Hg); replace HP := rng_below HP (alloc_store_below Hg); replace HB := bel_trans HB (Nat.le_refl _) (alloc_store_below Hg); clear Hg) | (refine wpList_load_mid_w (by rfl) 28 (.tmp 28) rfl pb po rfl (peerL ps pa pz) _ HP.out Try.underlying28 rfl iP28 ?_))
  rw [show (peerL ps pa pz).toArray = peerA ps pa pz from rfl]
  refine (toPeer_any ps pa pz W4 hpn).mono ?_
  rintro e W5 ⟨rfl, hb⟩
  replace H1 := blk_below H1 hb
  replace H2 := blk_below H2 hb
  replace HP := rng_below HP hb
  replace HB := bel_trans HB (Nat.le_refl _) hb
  replace H3 := blk_below H3 hb
  clear hb
  go_wp2_with (first | (refine wpList_store_row' rfl 34 (.tmp 9) (.tmp 30) rfl W5.heap.size 34 zeroPeer (peerA ps pa pz) rfl rfl (heap_alloc_new _ _) (by rw [peerA_size _ _ _ hpn, zeroPeer_size]) p34 (peerA_one _ _ _) ?_; intro W6 H4 Hg; replace H1 := blk_below H1 (alloc_store_below Hg); replace H2 := blk_below H2 (alloc_store_below Hg); replace HP := rng_below HP (alloc_store_below Hg); replace HB := bel_trans HB (Nat.le_refl _) (alloc_store_below Hg); replace H3 := blk_below H3 (alloc_store_below Hg); clear Hg) | (refine wpList_load_row_w (by rfl) 34 (.tmp 7) rfl _ rfl 34 (peerA ss a z) (0, 0) _ H3.out Try.underlying34 rfl s34 ?_) | (refine wpList_load_row_w (by rfl) 26 (.tmp 4) rfl _ rfl 26 (idA ks) (0, 0) _ H2.out Try.underlying26 rfl s26 ?_))
  refine (zzonArc_some W5.heap.size ss ks ps a z W6 hsn hkn hpn bs bk bp (rng_row hpn H4)).mono ?_
  rw [hG.out]
  rintro e W7 ⟨rfl, hb⟩
  replace H1 := blk_below H1 hb
  replace H2 := blk_below H2 hb
  replace HP := rng_below HP hb
  replace HB := bel_trans HB (Nat.le_refl _) hb
  clear hb
  clear H3 H4 hG
  go_wp2_with fail
  refine wp_region_noPanic ?_
  refine wp_region_held_drew (S := fun w' => Below W7.heap.size W7 w') (by kernel_rfl) (Below.refl _ _).drew (fun hHeld => ?_)
  refine takeOp 0 (some 37) rfl rfl (by kernel_rfl) (by kernel_rfl) (by kernel_rfl) (by rfl) (v := ?_) ?_ (by assumption) ?_
  rotate_left
  · intro w hSw; (try dsimp only at hSw); go_simp
    try with_reducible rfl
  simp only [Act.put, List.setIfInBounds_toArray, List.set_cons_zero, List.set_cons_succ]
  refine takeLoad 1 (some 38) rfl rfl (by kernel_rfl) (by kernel_rfl) (by kernel_rfl) (by rfl) 26 (.tmp 37) rfl w.heap.size 0 rfl (idL ss) _ (fun w h => pAt_below (rng_row hsn H1) h) Try.underlying26 rfl iS (by assumption) ?_
  simp only [Act.put, List.setIfInBounds_toArray, List.set_cons_zero, List.set_cons_succ]
  refine takeOp 2 (some 39) rfl rfl (by kernel_rfl) (by kernel_rfl) (by kernel_rfl) (by rfl) (v := ?_) ?_ (by assumption) ?_
  rotate_left
  · intro w hSw; (try dsimp only at hSw); go_simp
    try with_reducible rfl
  simp only [Act.put, List.setIfInBounds_toArray, List.set_cons_zero, List.set_cons_succ]
  refine takeOp 3 (some 40) rfl rfl (by kernel_rfl) (by kernel_rfl) (by kernel_rfl) (by rfl) (v := ?_) ?_ (by assumption) ?_
  rotate_left
  · intro w hSw; (try dsimp only at hSw); go_simp
    try with_reducible rfl
  simp only [Act.put, List.setIfInBounds_toArray, List.set_cons_zero, List.set_cons_succ]
  refine takeOp 4 (some 41) rfl rfl (by kernel_rfl) (by kernel_rfl) (by kernel_rfl) (by rfl) (v := ?_) ?_ (by assumption) ?_
  rotate_left
  · intro w hSw; (try dsimp only at hSw); go_simp
    try with_reducible rfl
  simp only [Act.put, List.setIfInBounds_toArray, List.set_cons_zero, List.set_cons_succ]
  refine takeLoad 5 (some 42) rfl rfl (by kernel_rfl) (by kernel_rfl) (by kernel_rfl) (by rfl) 26 (.tmp 41) rfl pb po rfl (idL ps) _ (fun w h => pAt_below (pAt_parts hpn HP.out).1 h) Try.underlying26 rfl iP (by assumption) ?_
  simp only [Act.put, List.setIfInBounds_toArray, List.set_cons_zero, List.set_cons_succ]
  refine wpAnyH_ready (rs := [6, 7]) (by kernel_rfl) (by simp) ?_
  refine AllReadyH.cons rfl (fun K0 hK0 => ?_) (AllReadyH.cons rfl (fun K0 hK0 => ?_) AllReadyH.nil)
  · go_simp
    refine (sub_any ss ps _ hsn hpn bs bp).mono ?_
    rw [HDD.out]
    rintro e WA ⟨rfl, hb⟩
    have hS := hHeld.trans (hb.mono hHeld.size)
    refine hK0.out _ _ hS (fun hHeld => ?_)
    clear hK0 K0
    try simp only [Act.put, List.setIfInBounds_toArray, List.set_cons_zero, List.set_cons_succ]
    have hsz : W7.heap.size ≤ WA.heap.size := hHeld.size
    refine wpAnyH_ready (rs := [7]) (by kernel_rfl) (by simp) ?_
    refine AllReadyH.cons rfl (fun K0 hK0 => ?_) AllReadyH.nil
    go_simp
    refine hK0.out _ _ (hHeld.alloc hHeld.size _) (fun hHeld => ?_)
    clear hK0 K0
    try simp only [Act.put, List.setIfInBounds_toArray, List.set_cons_zero, List.set_cons_succ]
    refine wpAnyH_ready (rs := [8]) (by kernel_rfl) (by simp) ?_
    refine AllReadyH.cons rfl (fun K0 hK0 => ?_) AllReadyH.nil
    rw [if_pos (by rfl)]
    refine wp_store_row' 26 (.tmp 12) (.tmp 43) rfl WA.heap.size 26 zero20 (idA D) rfl rfl (heap_alloc_new WA (.cells zero20 26)) zD sD (idA_one _) ?_
    intro W8 H12 Hst
    refine hK0.out _ _ (Hst.out _ _ hHeld (by first | exact Nat.le_refl _ | exact hsz)) (fun hHeld => ?_)
    clear Hst
    clear hK0 K0
    try simp only [Act.put, List.setIfInBounds_toArray, List.set_cons_zero, List.set_cons_succ]
    refine wpAnyH_done (by kernel_rfl) ?_ _
    refine NoPanic.normal ?_
    replace H1 := blk_below H1 hHeld
    replace H2 := blk_below H2 hHeld
    replace HP := rng_below HP hHeld
    replace HB := bel_trans HB (Nat.le_refl _) hHeld
    clear hHeld
    go_wp2_with fail
    refine wp_region_noPanic ?_
    refine wp_region_held_drew (S := fun w' => Below W8.heap.size W8 w') (by kernel_rfl) (Below.refl _ _).drew (fun hHeld => ?_)
    refine takeLoad 0 (some 44) rfl rfl (by kernel_rfl) (by kernel_rfl) (by kernel_rfl) (by rfl) 26 (.tmp 4) rfl (w.heap.size + 1) 0 rfl (idL ks) _ (fun w h => pAt_below (rng_id H2) h) Try.underlying26 rfl iK (by assumption) ?_
    simp only [Act.put, List.setIfInBounds_toArray, List.set_cons_zero, List.set_cons_succ]
    refine takeOp 1 (some 45) rfl rfl (by kernel_rfl) (by kernel_rfl) (by kernel_rfl) (by rfl) (v := ?_) ?_ (by assumption) ?_
    rotate_left
    · intro w hSw; (try dsimp only at hSw); go_simp
      try with_reducible rfl
    simp only [Act.put, List.setIfInBounds_toArray, List.set_cons_zero, List.set_cons_succ]
    refine takeOp 2 (some 46) rfl rfl (by kernel_rfl) (by kernel_rfl) (by kernel_rfl) (by rfl) (v := ?_) ?_ (by assumption) ?_
    rotate_left
    · intro w hSw; (try dsimp only at hSw); go_simp
      try with_reducible rfl
    simp only [Act.put, List.setIfInBounds_toArray, List.set_cons_zero, List.set_cons_succ]
    refine takeOp 3 (some 47) rfl rfl (by kernel_rfl) (by kernel_rfl) (by kernel_rfl) (by rfl) (v := ?_) ?_ (by assumption) ?_
    rotate_left
    · intro w hSw; (try dsimp only at hSw); go_simp
      try with_reducible rfl
    simp only [Act.put, List.setIfInBounds_toArray, List.set_cons_zero, List.set_cons_succ]
    refine takeLoad 4 (some 48) rfl rfl (by kernel_rfl) (by kernel_rfl) (by kernel_rfl) (by rfl) 26 (.tmp 47) rfl pb po rfl (idL ps) _ (fun w h => pAt_below (pAt_parts hpn HP.out).1 h) Try.underlying26 rfl iP (by assumption) ?_
    simp only [Act.put, List.setIfInBounds_toArray, List.set_cons_zero, List.set_cons_succ]
    refine wpAnyH_ready (rs := [5, 6]) (by kernel_rfl) (by simp) ?_
    refine AllReadyH.cons rfl (fun K0 hK0 => ?_) (AllReadyH.cons rfl (fun K0 hK0 => ?_) AllReadyH.nil)
    · go_simp
      refine (sub_any ks ps _ hkn hpn bk bp).mono ?_
      rw [HKK.out]
      rintro e WA ⟨rfl, hb⟩
      have hS := hHeld.trans (hb.mono hHeld.size)
      refine hK0.out _ _ hS (fun hHeld => ?_)
      clear hK0 K0
      try simp only [Act.put, List.setIfInBounds_toArray, List.set_cons_zero, List.set_cons_succ]
      have hsz : W8.heap.size ≤ WA.heap.size := hHeld.size
      refine wpAnyH_ready (rs := [6]) (by kernel_rfl) (by simp) ?_
      refine AllReadyH.cons rfl (fun K0 hK0 => ?_) AllReadyH.nil
      go_simp
      refine hK0.out _ _ (hHeld.alloc hHeld.size _) (fun hHeld => ?_)
      clear hK0 K0
      try simp only [Act.put, List.setIfInBounds_toArray, List.set_cons_zero, List.set_cons_succ]
      refine wpAnyH_ready (rs := [7]) (by kernel_rfl) (by simp) ?_
      refine AllReadyH.cons rfl (fun K0 hK0 => ?_) AllReadyH.nil
      rw [if_pos (by rfl)]
      refine wp_store_row' 26 (.tmp 13) (.tmp 49) rfl WA.heap.size 26 zero20 (idA K) rfl rfl (heap_alloc_new WA (.cells zero20 26)) zK sK (idA_one _) ?_
      intro W9 H13 Hst
      refine hK0.out _ _ (Hst.out _ _ hHeld (by first | exact Nat.le_refl _ | exact hsz)) (fun hHeld => ?_)
      clear Hst
      clear hK0 K0
      try simp only [Act.put, List.setIfInBounds_toArray, List.set_cons_zero, List.set_cons_succ]
      refine wpAnyH_done (by kernel_rfl) ?_ _
      refine NoPanic.normal ?_
      replace H12 := blk_below H12 hHeld
      replace HB := bel_trans HB (Nat.le_refl _) hHeld
      clear hHeld
      go_wp2_with (refine wpList_load_row_w (by rfl) 26 (.tmp 12) rfl _ rfl 26 (idA D) (0, 0) _ H12.out Try.underlying26 rfl sD ?_)
      refine (isZero_any D W9 hDn bbD).mono ?_
      rw [hD.out]
      rintro e W10 ⟨rfl, hb⟩
      replace H12 := blk_below H12 hb
      replace H13 := blk_below H13 hb
      replace HB := bel_trans HB (Nat.le_refl _) hb
      clear hb
      have hr := hrel.out
      cases bD
      · cases bK
        · cases bL
          all_goals
            simp at hr
            subst hr
            go_wp2_with (refine wpList_load_row_w (by rfl) 26 (.tmp 13) rfl _ rfl 26 (idA K) (0, 0) _ H13.out Try.underlying26 rfl sK ?_)
            refine (isZero_any K W10 hKn bbK).mono ?_
            rw [hK.out]
            rintro e W11 ⟨rfl, hb⟩
            replace H12 := blk_below H12 hb
            replace H13 := blk_below H13 hb
            replace HB := bel_trans HB (Nat.le_refl _) hb
            clear hb
            go_wp2_with (first | (refine wpList_load_row_w (by rfl) 26 (.tmp 12) rfl _ rfl 26 (idA D) (0, 0) _ H12.out Try.underlying26 rfl sD ?_) | (refine wpList_load_row_w (by rfl) 26 (.tmp 13) rfl _ rfl 26 (idA K) (0, 0) _ H13.out Try.underlying26 rfl sK ?_))
            refine (lessEq_any K D W11 hKn hDn bbK bbD).mono ?_
            rw [hL.out]
            rintro e W12 ⟨rfl, hb⟩
            replace HB := bel_trans HB (Nat.le_refl _) hb
            clear hb
            go_wp2_with fail
            go_ret
            exact ⟨rfl, HB.out⟩
        · simp at hr
          subst hr
          go_wp2_with (refine wpList_load_row_w (by rfl) 26 (.tmp 13) rfl _ rfl 26 (idA K) (0, 0) _ H13.out Try.underlying26 rfl sK ?_)
          refine (isZero_any K W10 hKn bbK).mono ?_
          rw [hK.out]
          rintro e W11 ⟨rfl, hb⟩
          replace HB := bel_trans HB (Nat.le_refl _) hb
          clear hb
          go_wp2_with fail
          go_ret
          exact ⟨rfl, HB.out⟩
      · simp at hr
        subst hr
        go_wp2_with fail
        go_ret
        exact ⟨rfl, HB.out⟩
    · go_simp
      refine hK0.out _ _ (hHeld.alloc hHeld.size _) (fun hHeld => ?_)
      clear hK0 K0
      try simp only [Act.put, List.setIfInBounds_toArray, List.set_cons_zero, List.set_cons_succ]
      refine wpAnyH_ready (rs := [5]) (by kernel_rfl) (by simp) ?_
      refine AllReadyH.cons rfl (fun K0 hK0 => ?_) AllReadyH.nil
      go_simp
      refine (sub_any ks ps _ hkn hpn bk bp).mono ?_
      rw [HKK.out]
      rintro e WA ⟨rfl, hb⟩
      have hS := hHeld.trans (hb.mono hHeld.size)
      refine hK0.out _ _ hS (fun hHeld => ?_)
      clear hK0 K0
      try simp only [Act.put, List.setIfInBounds_toArray, List.set_cons_zero, List.set_cons_succ]
      have hga : WA.heap[W8.heap.size]? = some (.cells zero20 26 (0, 0)) := by rw [hb.block _ (by simp)]; exact heap_alloc_new W8.drew (.cells zero20 26)
      refine wpAnyH_ready (rs := [7]) (by kernel_rfl) (by simp) ?_
      refine AllReadyH.cons rfl (fun K0 hK0 => ?_) AllReadyH.nil
      rw [if_pos (by rfl)]
      refine wp_store_row' 26 (.tmp 13) (.tmp 49) rfl W8.heap.size 26 zero20 (idA K) rfl rfl hga zK sK (idA_one _) ?_
      intro W9 H13 Hst
      refine hK0.out _ _ (Hst.out _ _ hHeld (by first | exact Nat.le_refl _ | exact hsz)) (fun hHeld => ?_)
      clear Hst
      clear hK0 K0
      try simp only [Act.put, List.setIfInBounds_toArray, List.set_cons_zero, List.set_cons_succ]
      refine wpAnyH_done (by kernel_rfl) ?_ _
      refine NoPanic.normal ?_
      replace H12 := blk_below H12 hHeld
      replace HB := bel_trans HB (Nat.le_refl _) hHeld
      clear hHeld
      go_wp2_with (refine wpList_load_row_w (by rfl) 26 (.tmp 12) rfl _ rfl 26 (idA D) (0, 0) _ H12.out Try.underlying26 rfl sD ?_)
      refine (isZero_any D W9 hDn bbD).mono ?_
      rw [hD.out]
      rintro e W10 ⟨rfl, hb⟩
      replace H12 := blk_below H12 hb
      replace H13 := blk_below H13 hb
      replace HB := bel_trans HB (Nat.le_refl _) hb
      clear hb
      have hr := hrel.out
      cases bD
      · cases bK
        · cases bL
          all_goals
            simp at hr
            subst hr
            go_wp2_with (refine wpList_load_row_w (by rfl) 26 (.tmp 13) rfl _ rfl 26 (idA K) (0, 0) _ H13.out Try.underlying26 rfl sK ?_)
            refine (isZero_any K W10 hKn bbK).mono ?_
            rw [hK.out]
            rintro e W11 ⟨rfl, hb⟩
            replace H12 := blk_below H12 hb
            replace H13 := blk_below H13 hb
            replace HB := bel_trans HB (Nat.le_refl _) hb
            clear hb
            go_wp2_with (first | (refine wpList_load_row_w (by rfl) 26 (.tmp 12) rfl _ rfl 26 (idA D) (0, 0) _ H12.out Try.underlying26 rfl sD ?_) | (refine wpList_load_row_w (by rfl) 26 (.tmp 13) rfl _ rfl 26 (idA K) (0, 0) _ H13.out Try.underlying26 rfl sK ?_))
            refine (lessEq_any K D W11 hKn hDn bbK bbD).mono ?_
            rw [hL.out]
            rintro e W12 ⟨rfl, hb⟩
            replace HB := bel_trans HB (Nat.le_refl _) hb
            clear hb
            go_wp2_with fail
            go_ret
            exact ⟨rfl, HB.out⟩
        · simp at hr
          subst hr
          go_wp2_with (refine wpList_load_row_w (by rfl) 26 (.tmp 13) rfl _ rfl 26 (idA K) (0, 0) _ H13.out Try.underlying26 rfl sK ?_)
          refine (isZero_any K W10 hKn bbK).mono ?_
          rw [hK.out]
          rintro e W11 ⟨rfl, hb⟩
          replace HB := bel_trans HB (Nat.le_refl _) hb
          clear hb
          go_wp2_with fail
          go_ret
          exact ⟨rfl, HB.out⟩
      · simp at hr
        subst hr
        go_wp2_with fail
        go_ret
        exact ⟨rfl, HB.out⟩
  · go_simp
    refine hK0.out _ _ (hHeld.alloc hHeld.size _) (fun hHeld => ?_)
    clear hK0 K0
    try simp only [Act.put, List.setIfInBounds_toArray, List.set_cons_zero, List.set_cons_succ]
    refine wpAnyH_ready (rs := [6]) (by kernel_rfl) (by simp) ?_
    refine AllReadyH.cons rfl (fun K0 hK0 => ?_) AllReadyH.nil
    go_simp
    refine (sub_any ss ps _ hsn hpn bs bp).mono ?_
    rw [HDD.out]
    rintro e WA ⟨rfl, hb⟩
    have hS := hHeld.trans (hb.mono hHeld.size)
    refine hK0.out _ _ hS (fun hHeld => ?_)
    clear hK0 K0
    try simp only [Act.put, List.setIfInBounds_toArray, List.set_cons_zero, List.set_cons_succ]
    have hga : WA.heap[W7.heap.size]? = some (.cells zero20 26 (0, 0)) := by rw [hb.block _ (by simp)]; exact heap_alloc_new W7.drew (.cells zero20 26)
    refine wpAnyH_ready (rs := [8]) (by kernel_rfl) (by simp) ?_
    refine AllReadyH.cons rfl (fun K0 hK0 => ?_) AllReadyH.nil
    rw [if_pos (by rfl)]
    refine wp_store_row' 26 (.tmp 12) (.tmp 43) rfl W7.heap.size 26 zero20 (idA D) rfl rfl hga zD sD (idA_one _) ?_
    intro W8 H12 Hst
    refine hK0.out _ _ (Hst.out _ _ hHeld (by first | exact Nat.le_refl _ | exact hsz)) (fun hHeld => ?_)
    clear Hst
    clear hK0 K0
    try simp only [Act.put, List.setIfInBounds_toArray, List.set_cons_zero, List.set_cons_succ]
    refine wpAnyH_done (by kernel_rfl) ?_ _
    refine NoPanic.normal ?_
    replace H1 := blk_below H1 hHeld
    replace H2 := blk_below H2 hHeld
    replace HP := rng_below HP hHeld
    replace HB := bel_trans HB (Nat.le_refl _) hHeld
    clear hHeld
    go_wp2_with fail
    refine wp_region_noPanic ?_
    refine wp_region_held_drew (S := fun w' => Below W8.heap.size W8 w') (by kernel_rfl) (Below.refl _ _).drew (fun hHeld => ?_)
    refine takeLoad 0 (some 44) rfl rfl (by kernel_rfl) (by kernel_rfl) (by kernel_rfl) (by rfl) 26 (.tmp 4) rfl (w.heap.size + 1) 0 rfl (idL ks) _ (fun w h => pAt_below (rng_id H2) h) Try.underlying26 rfl iK (by assumption) ?_
    simp only [Act.put, List.setIfInBounds_toArray, List.set_cons_zero, List.set_cons_succ]
    refine takeOp 1 (some 45) rfl rfl (by kernel_rfl) (by kernel_rfl) (by kernel_rfl) (by rfl) (v := ?_) ?_ (by assumption) ?_
    rotate_left
    · intro w hSw; (try dsimp only at hSw); go_simp
      try with_reducible rfl
    simp only [Act.put, List.setIfInBounds_toArray, List.set_cons_zero, List.set_cons_succ]
    refine takeOp 2 (some 46) rfl rfl (by kernel_rfl) (by kernel_rfl) (by kernel_rfl) (by rfl) (v := ?_) ?_ (by assumption) ?_
    rotate_left
    · intro w hSw; (try dsimp only at hSw); go_simp
      try with_reducible rfl
    simp only [Act.put, List.setIfInBounds_toArray, List.set_cons_zero, List.set_cons_succ]
    refine takeOp 3 (some 47) rfl rfl (by kernel_rfl) (by kernel_rfl) (by kernel_rfl) (by rfl) (v := ?_) ?_ (by assumption) ?_
    rotate_left
    · intro w hSw; (try dsimp only at hSw); go_simp
      try with_reducible rfl
    simp only [Act.put, List.setIfInBounds_toArray, List.set_cons_zero, List.set_cons_succ]
    refine takeLoad 4 (some 48) rfl rfl (by kernel_rfl) (by kernel_rfl) (by kernel_rfl) (by rfl) 26 (.tmp 47) rfl pb po rfl (idL ps) _ (fun w h => pAt_below (pAt_parts hpn HP.out).1 h) Try.underlying26 rfl iP (by assumption) ?_
    simp only [Act.put, List.setIfInBounds_toArray, List.set_cons_zero, List.set_cons_succ]
    refine wpAnyH_ready (rs := [5, 6]) (by kernel_rfl) (by simp) ?_
    refine AllReadyH.cons rfl (fun K0 hK0 => ?_) (AllReadyH.cons rfl (fun K0 hK0 => ?_) AllReadyH.nil)
    · go_simp
      refine (sub_any ks ps _ hkn hpn bk bp).mono ?_
      rw [HKK.out]
      rintro e WA ⟨rfl, hb⟩
      have hS := hHeld.trans (hb.mono hHeld.size)
      refine hK0.out _ _ hS (fun hHeld => ?_)
      clear hK0 K0
      try simp only [Act.put, List.setIfInBounds_toArray, List.set_cons_zero, List.set_cons_succ]
      have hsz : W8.heap.size ≤ WA.heap.size := hHeld.size
      refine wpAnyH_ready (rs := [6]) (by kernel_rfl) (by simp) ?_
      refine AllReadyH.cons rfl (fun K0 hK0 => ?_) AllReadyH.nil
      go_simp
      refine hK0.out _ _ (hHeld.alloc hHeld.size _) (fun hHeld => ?_)
      clear hK0 K0
      try simp only [Act.put, List.setIfInBounds_toArray, List.set_cons_zero, List.set_cons_succ]
      refine wpAnyH_ready (rs := [7]) (by kernel_rfl) (by simp) ?_
      refine AllReadyH.cons rfl (fun K0 hK0 => ?_) AllReadyH.nil
      rw [if_pos (by rfl)]
      refine wp_store_row' 26 (.tmp 13) (.tmp 49) rfl WA.heap.size 26 zero20 (idA K) rfl rfl (heap_alloc_new WA (.cells zero20 26)) zK sK (idA_one _) ?_
      intro W9 H13 Hst
      refine hK0.out _ _ (Hst.out _ _ hHeld (by first | exact Nat.le_refl _ | exact hsz)) (fun hHeld => ?_)
      clear Hst
      clear hK0 K0
      try simp only [Act.put, List.setIfInBounds_toArray, List.set_cons_zero, List.set_cons_succ]
      refine wpAnyH_done (by kernel_rfl) ?_ _
      refine NoPanic.normal ?_
      replace H12 := blk_below H12 hHeld
      replace HB := bel_trans HB (Nat.le_refl _) hHeld
      clear hHeld
      go_wp2_with (refine wpList_load_row_w (by rfl) 26 (.tmp 12) rfl _ rfl 26 (idA D) (0, 0) _ H12.out Try.underlying26 rfl sD ?_)
      refine (isZero_any D W9 hDn bbD).mono ?_
      rw [hD.out]
      rintro e W10 ⟨rfl, hb⟩
      replace H12 := blk_below H12 hb
      replace H13 := blk_below H13 hb
      replace HB := bel_trans HB (Nat.le_refl _) hb
      clear hb
      have hr := hrel.out
      cases bD
      · cases bK
        · cases bL
          all_goals
            simp at hr
            subst hr
            go_wp2_with (refine wpList_load_row_w (by rfl) 26 (.tmp 13) rfl _ rfl 26 (idA K) (0, 0) _ H13.out Try.underlying26 rfl sK ?_)
            refine (isZero_any K W10 hKn bbK).mono ?_
            rw [hK.out]
            rintro e W11 ⟨rfl, hb⟩
            replace H12 := blk_below H12 hb
            replace H13 := blk_below H13 hb
            replace HB := bel_trans HB (Nat.le_refl _) hb
            clear hb
            go_wp2_with (first | (refine wpList_load_row_w (by rfl) 26 (.tmp 12) rfl _ rfl 26 (idA D) (0, 0) _ H12.out Try.underlying26 rfl sD ?_) | (refine wpList_load_row_w (by rfl) 26 (.tmp 13) rfl _ rfl 26 (idA K) (0, 0) _ H13.out Try.underlying26 rfl sK ?_))
            refine (lessEq_any K D W11 hKn hDn bbK bbD).mono ?_
            rw [hL.out]
            rintro e W12 ⟨rfl, hb⟩
            replace HB := bel_trans HB (Nat.le_refl _) hb
            clear hb
            go_wp2_with fail
            go_ret
            exact ⟨rfl, HB.out⟩
        · simp at hr
          subst hr
          go_wp2_with (refine wpList_load_row_w (by rfl) 26 (.tmp 13) rfl _ rfl 26 (idA K) (0, 0) _ H13.out Try.underlying26 rfl sK ?_)
          refine (isZero_any K W10 hKn bbK).mono ?_
          rw [hK.out]
          rintro e W11 ⟨rfl, hb⟩
          replace HB := bel_trans HB (Nat.le_refl _) hb
          clear hb
          go_wp2_with fail
          go_ret
          exact ⟨rfl, HB.out⟩
      · simp at hr
        subst hr
        go_wp2_with fail
        go_ret
        exact ⟨rfl, HB.out⟩
    · go_simp
      refine hK0.out _ _ (hHeld.alloc hHeld.size _) (fun hHeld => ?_)
      clear hK0 K0
      try simp only [Act.put, List.setIfInBounds_toArray, List.set_cons_zero, List.set_cons_succ]
      refine wpAnyH_ready (rs := [5]) (by kernel_rfl) (by simp) ?_
      refine AllReadyH.cons rfl (fun K0 hK0 => ?_) AllReadyH.nil
      go_simp
      refine (sub_any ks ps _ hkn hpn bk bp).mono ?_
      rw [HKK.out]
      rintro e WA ⟨rfl, hb⟩
      have hS := hHeld.trans (hb.mono hHeld.size)
      refine hK0.out _ _ hS (fun hHeld => ?_)
      clear hK0 K0
      try simp only [Act.put, List.setIfInBounds_toArray, List.set_cons_zero, List.set_cons_succ]
      have hga : WA.heap[W8.heap.size]? = some (.cells zero20 26 (0, 0)) := by rw [hb.block _ (by simp)]; exact heap_alloc_new W8.drew (.cells zero20 26)
      refine wpAnyH_ready (rs := [7]) (by kernel_rfl) (by simp) ?_
      refine AllReadyH.cons rfl (fun K0 hK0 => ?_) AllReadyH.nil
      rw [if_pos (by rfl)]
      refine wp_store_row' 26 (.tmp 13) (.tmp 49) rfl W8.heap.size 26 zero20 (idA K) rfl rfl hga zK sK (idA_one _) ?_
      intro W9 H13 Hst
      refine hK0.out _ _ (Hst.out _ _ hHeld (by first | exact Nat.le_refl _ | exact hsz)) (fun hHeld => ?_)
      clear Hst
      clear hK0 K0
      try simp only [Act.put, List.setIfInBounds_toArray, List.set_cons_zero, List.set_cons_succ]
      refine wpAnyH_done (by kernel_rfl) ?_ _
      refine NoPanic.normal ?_
      replace H12 := blk_below H12 hHeld
      replace HB := bel_trans HB (Nat.le_refl _) hHeld
      clear hHeld
      go_wp2_with (refine wpList_load_row_w (by rfl) 26 (.tmp 12) rfl _ rfl 26 (idA D) (0, 0) _ H12.out Try.underlying26 rfl sD ?_)
      refine (isZero_any D W9 hDn bbD).mono ?_
      rw [hD.out]
      rintro e W10 ⟨rfl, hb⟩
      replace H12 := blk_below H12 hb
      replace H13 := blk_below H13 hb
      replace HB := bel_trans HB (Nat.le_refl _) hb
      clear hb
      have hr := hrel.out
      cases bD
      · cases bK
        · cases bL
          all_goals
            simp at hr
            subst hr
            go_wp2_with (refine wpList_load_row_w (by rfl) 26 (.tmp 13) rfl _ rfl 26 (idA K) (0, 0) _ H13.out Try.underlying26 rfl sK ?_)
            refine (isZero_any K W10 hKn bbK).mono ?_
            rw [hK.out]
            rintro e W11 ⟨rfl, hb⟩
            replace H12 := blk_below H12 hb
            replace H13 := blk_below H13 hb
            replace HB := bel_trans HB (Nat.le_refl _) hb
            clear hb
            go_wp2_with (first | (refine wpList_load_row_w (by rfl) 26 (.tmp 12) rfl _ rfl 26 (idA D) (0, 0) _ H12.out Try.underlying26 rfl sD ?_) | (refine wpList_load_row_w (by rfl) 26 (.tmp 13) rfl _ rfl 26 (idA K) (0, 0) _ H13.out Try.underlying26 rfl sK ?_))
            refine (lessEq_any K D W11 hKn hDn bbK bbD).mono ?_
            rw [hL.out]
            rintro e W12 ⟨rfl, hb⟩
            replace HB := bel_trans HB (Nat.le_refl _) hb
            clear hb
            go_wp2_with fail
            go_ret
            exact ⟨rfl, HB.out⟩
        · simp at hr
          subst hr
          go_wp2_with (refine wpList_load_row_w (by rfl) 26 (.tmp 13) rfl _ rfl 26 (idA K) (0, 0) _ H13.out Try.underlying26 rfl sK ?_)
          refine (isZero_any K W10 hKn bbK).mono ?_
          rw [hK.out]
          rintro e W11 ⟨rfl, hb⟩
          replace HB := bel_trans HB (Nat.le_refl _) hb
          clear hb
          go_wp2_with fail
          go_ret
          exact ⟨rfl, HB.out⟩
      · simp at hr
        subst hr
        go_wp2_with fail
        go_ret
        exact ⟨rfl, HB.out⟩

theorem mod_some (pb po : Nat) (ss ks ps : List Int) (a z pa pz : ByteArray) (w : World) (hsn : ss.length = 20) (hkn : ks.length = 20) (hpn : ps.length = 20) (bs : Bytes ss) (bk : Bytes ks) (bp : Bytes ps) (h : a.size + z.size + pa.size + pz.size ≤ 1048576)
    (hp : w.rangeAt pb po (peerL ps pa pz)) :
    Calls Try.prog 5 #[.agg (peerA ss a z), .agg (idA ks), .pointer (some ⟨pb, po, none⟩)] w fun e w' => e = .returned (.bool true) ∧ Below w.heap.size w w' := by
  obtain ⟨l1, b1, _⟩ := subB_law ss ps (by omega) bs bp
  obtain ⟨l2, b2, _⟩ := subB_law ks ps (by omega) bk bp
  obtain ⟨d1, d2⟩ := dist_law ks ps ss hkn hpn hsn bk bp bs
  refine mod_core pb po ss ks ps _ _ _ _ _ _ a z pa pz w hsn hkn hpn bs bk bp h hp rfl rfl (by omega) (by omega) b1 b2 rfl rfl rfl rfl ?_
  show _ = _
  by_cases hv : val ps = val ss
  · rw [arc_eq _ _ _ hv, decide_eq_true (d1.2 hv)]; rfl
  · rw [d2 hv, decide_eq_false (fun e => hv (d1.1 e)), Bool.false_or]
end Go.Proofs.Qxb6605895a
