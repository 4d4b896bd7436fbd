/-
  The walks of (*Node).onArc (20), ZZonArc (13).
-/
import Derived.Test.Qxb6605895aArc
namespace Go.Proofs.Qxb6605895a
open Go.RowKit
set_option linter.unusedSimpArgs false

/-- The bytes as a list of cells (a definition, so that the walk leaves it standing). -/
def idL (xs : List Int) : List Value := xs.map (Value.int .u8)
theorem idL_arr (xs : List Int) : (idL xs).toArray = idA xs := rfl
theorem idL_length (xs : List Int) : (idL xs).length = xs.length := by simp [idL]
theorem idL_one (xs : List Int) : ∀ v ∈ idL xs, v.oneCell' = true := ints_oneCell .u8 xs

set_option maxRecDepth 100000 in
set_option maxHeartbeats 1000000 in
theorem onArc_nil (n : Value) (ks : List Int) (w : World) :
    Calls Try.prog 20 #[n, .agg (idA ks), .pointer none] w fun e w' => e = .returned (.bool true) ∧ Below w.heap.size w w' := by
  go_enter Try.func20, Try.ntmps20
  go_wp2_with fail
  go_quiet (fail)
  go_wp2_with fail
  go_ret
  exact ⟨rfl, below_drewN ((Below.refl _ _).alloc (Nat.le_refl _) _) _⟩

set_option maxRecDepth 100000 in
set_option maxHeartbeats 1000000 in
theorem onArc_some (nb pb : Nat) (ks ps ss : List Int) (w : World) (hkn : ks.length = 20) (hpn : ps.length = 20) (hsn : ss.length = 20) (bk : Bytes ks) (bp : Bytes ps) (bs : Bytes ss)
    (hp : w.rangeAt pb 0 (idL ps)) (hs : w.rangeAt nb 0 (idL ss)) :
    Calls Try.prog 20 #[.pointer (some ⟨nb, 0, none⟩), .agg (idA ks), .pointer (some ⟨pb, 0, none⟩)] w fun e w' => e = .returned (.bool (inArc (val ks) (val ps) (val ss))) ∧ Below w.heap.size w w' := by
  have lK := idL_length ks
  have lP := idL_length ps
  have lS := idL_length ss
  rw [hkn] at lK
  rw [hpn] at lP
  rw [hsn] at lS
  have iK : (Try.prog.info? 32).map (·.size) = some (idL ks).length := by rw [lK]; exact Try.size32
  have iP : (Try.prog.info? 32).map (·.size) = some (idL ps).length := by rw [lP]; exact Try.size32
  have iS : (Try.prog.info? 32).map (·.size) = some (idL ss).length := by rw [lS]; exact Try.size32
  have oK := idL_one ks
  have oP := idL_one ps
  have oS := idL_one ss
  have hu := Try.underlying32
  have rK : (w.alloc (.cells (idA ks) 32)).rangeAt w.heap.size 0 (idL ks) := fun j v hj => by
    rw [Nat.zero_add, cell_of_row _ _ _ _ _ _ (heap_alloc_new _ _)]; simpa [idA, idL] using hj
  have rP : (w.alloc (.cells (idA ks) 32)).rangeAt pb 0 (idL ps) := World.rangeAt_alloc hp _
  have rS : (w.alloc (.cells (idA ks) 32)).rangeAt nb 0 (idL ss) := World.rangeAt_alloc hs _
  have HX : Hid (Below w.heap.size w (w.alloc (.cells (idA ks) 32))) := (Below.refl _ _).alloc (Nat.le_refl _) _
  have HY : Hid (w.heap.size ≤ (w.alloc (.cells (idA ks) 32)).heap.size) := by show _ ≤ _; simp
  clear hp hs
  go_enter Try.func20, Try.ntmps20
  go_upto_region 1 with fail
  generalize w.alloc (.cells (idA ks) 32) = W at *
  refine wp_region_noPanic ?_
  refine wp_region_held_drew (S := fun w' => w'.rangeAt w.heap.size 0 (idL ks) ∧ w'.rangeAt pb 0 (idL ps) ∧ w'.rangeAt nb 0 (idL ss)) (by kernel_rfl) ⟨rK, rP, rS⟩ (fun hHeld => ?_)
  refine takeOp 0 (some 7) rfl rfl (by kernel_rfl) (by kernel_rfl) (by kernel_rfl) (by rfl) (v := ?_) ?_ (by assumption) ?_
  rotate_left
  · intro w hSw; (try dsimp only at hSw); go_simp
    try with_reducible rfl
  simp only [Act.put, List.setIfInBounds_toArray, List.set_cons_zero, List.set_cons_succ]
  refine takeOp 1 (some 8) rfl rfl (by kernel_rfl) (by kernel_rfl) (by kernel_rfl) (by rfl) (v := ?_) ?_ (by assumption) ?_
  rotate_left
  · intro w hSw; (try dsimp only at hSw); go_simp
    try with_reducible rfl
  simp only [Act.put, List.setIfInBounds_toArray, List.set_cons_zero, List.set_cons_succ]
  refine takeOp 2 (some 9) rfl rfl (by kernel_rfl) (by kernel_rfl) (by kernel_rfl) (by rfl) (v := ?_) ?_ (by assumption) ?_
  rotate_left
  · intro w hSw; (try dsimp only at hSw); go_simp
    try with_reducible rfl
  simp only [Act.put, List.setIfInBounds_toArray, List.set_cons_zero, List.set_cons_succ]
  refine takeLoad 3 (some 10) rfl rfl (by kernel_rfl) (by kernel_rfl) (by kernel_rfl) (by rfl) 32 (.tmp 4) rfl w.heap.size 0 rfl (idL ks) _ (fun w h => h.1) hu rfl iK (by assumption) ?_
  simp only [Act.put, List.setIfInBounds_toArray, List.set_cons_zero, List.set_cons_succ]
  refine takeOp 4 (some 11) rfl rfl (by kernel_rfl) (by kernel_rfl) (by kernel_rfl) (by rfl) (v := ?_) ?_ (by assumption) ?_
  rotate_left
  · intro w hSw; (try dsimp only at hSw); go_simp
    try with_reducible rfl
  simp only [Act.put, List.setIfInBounds_toArray, List.set_cons_zero, List.set_cons_succ]
  refine takeOp 5 (some 12) rfl rfl (by kernel_rfl) (by kernel_rfl) (by kernel_rfl) (by rfl) (v := ?_) ?_ (by assumption) ?_
  rotate_left
  · intro w hSw; (try dsimp only at hSw); go_simp
    try with_reducible rfl
  simp only [Act.put, List.setIfInBounds_toArray, List.set_cons_zero, List.set_cons_succ]
  refine takeOp 6 (some 13) rfl rfl (by kernel_rfl) (by kernel_rfl) (by kernel_rfl) (by rfl) (v := ?_) ?_ (by assumption) ?_
  rotate_left
  · intro w hSw; (try dsimp only at hSw); go_simp
    try with_reducible rfl
  simp only [Act.put, List.setIfInBounds_toArray, List.set_cons_zero, List.set_cons_succ]
  refine takeLoad 7 (some 14) rfl rfl (by kernel_rfl) (by kernel_rfl) (by kernel_rfl) (by rfl) 32 (.tmp 13) rfl pb 0 rfl (idL ps) _ (fun w h => h.2.1) hu rfl iP (by assumption) ?_
  simp only [Act.put, List.setIfInBounds_toArray, List.set_cons_zero, List.set_cons_succ]
  refine takeOp 8 (some 15) rfl rfl (by kernel_rfl) (by kernel_rfl) (by kernel_rfl) (by rfl) (v := ?_) ?_ (by assumption) ?_
  rotate_left
  · intro w hSw; (try dsimp only at hSw); go_simp
    try with_reducible rfl
  simp only [Act.put, List.setIfInBounds_toArray, List.set_cons_zero, List.set_cons_succ]
  refine takeOp 9 (some 16) rfl rfl (by kernel_rfl) (by kernel_rfl) (by kernel_rfl) (by rfl) (v := ?_) ?_ (by assumption) ?_
  rotate_left
  · intro w hSw; (try dsimp only at hSw); go_simp
    try with_reducible rfl
  simp only [Act.put, List.setIfInBounds_toArray, List.set_cons_zero, List.set_cons_succ]
  refine takeOp 10 (some 17) rfl rfl (by kernel_rfl) (by kernel_rfl) (by kernel_rfl) (by rfl) (v := ?_) ?_ (by assumption) ?_
  rotate_left
  · intro w hSw; (try dsimp only at hSw); go_simp
    try with_reducible rfl
  simp only [Act.put, List.setIfInBounds_toArray, List.set_cons_zero, List.set_cons_succ]
  refine takeOp 11 (some 18) rfl rfl (by kernel_rfl) (by kernel_rfl) (by kernel_rfl) (by rfl) (v := ?_) ?_ (by assumption) ?_
  rotate_left
  · intro w hSw; (try dsimp only at hSw); go_simp
    try with_reducible rfl
  simp only [Act.put, List.setIfInBounds_toArray, List.set_cons_zero, List.set_cons_succ]
  refine takeLoad 12 (some 19) rfl rfl (by kernel_rfl) (by kernel_rfl) (by kernel_rfl) (by rfl) 32 (.tmp 18) rfl nb 0 rfl (idL ss) _ (fun w h => h.2.2) hu rfl iS (by assumption) ?_
  simp only [Act.put, List.setIfInBounds_toArray, List.set_cons_zero, List.set_cons_succ]
  refine wpAnyH_ready (rs := [13]) (by kernel_rfl) (by simp) ?_
  refine AllReadyH.cons rfl (fun K hK => ?_) AllReadyH.nil
  go_simp
  refine (inArc_any ks ps ss _ hkn hpn hsn bk bp bs).mono ?_
  rintro e w7 ⟨rfl, hb7⟩
  refine hK.out _ _ ⟨fun j v hj => (hb7.cell (World.block_lt_of_cell? W _ (rK j v hj))).trans (rK j v hj), fun j v hj => (hb7.cell (World.block_lt_of_cell? W _ (rP j v hj))).trans (rP j v hj), fun j v hj => (hb7.cell (World.block_lt_of_cell? W _ (rS j v hj))).trans (rS j v hj)⟩ (fun hHeld => ?_)
  clear hK K
  try simp only [Act.put, List.setIfInBounds_toArray, List.set_cons_zero, List.set_cons_succ]
  refine takeOp 14 (some 21) rfl rfl (by kernel_rfl) (by kernel_rfl) (by kernel_rfl) (by rfl) (v := ?_) ?_ (by assumption) ?_
  rotate_left
  · intro w hSw; (try dsimp only at hSw); go_simp
    try with_reducible rfl
  simp only [Act.put, List.setIfInBounds_toArray, List.set_cons_zero, List.set_cons_succ]
  refine takeOp 15 (some 6) rfl rfl (by kernel_rfl) (by kernel_rfl) (by kernel_rfl) (by rfl) (v := ?_) ?_ (by assumption) ?_
  rotate_left
  · intro w hSw; (try dsimp only at hSw); go_simp
    try with_reducible rfl
  simp only [Act.put, List.setIfInBounds_toArray, List.set_cons_zero, List.set_cons_succ]
  refine wpAnyH_done (by kernel_rfl) ?_ _
  refine NoPanic.normal ?_
  go_wp2_with fail
  go_ret
  exact ⟨rfl, HX.out.drew.trans (hb7.mono HY.out)⟩
end Go.Proofs.Qxb6605895a
