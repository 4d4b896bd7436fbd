/-
  The walk of ZZdeltaFields (function 9).
-/
import Derived.Test.Qxb6605873aFields
namespace Go.Proofs.Qxb6605873a
open Go.RowKit

set_option maxHeartbeats 1000000 in
theorem zzdelta_any (n c i0 : Nat) (ao : Option Addr) (ds : List Int) (bs sz md mask width : Int) (w : World)
    (hm0 : 0 ≤ mask) (hm1 : mask < 256) (hw : width ≤ 65536) (hn : n ≤ 1048600) (hi : i0 ≤ n)
    (hnone : ao = none → n = 0) (hc : ∀ ad, ao = some ad → ∀ j, j < n → w.cell? (ad.add j) = some (.int .u8 (ds[j]?.getD 0))) :
    Calls Try.prog 9 #[.slice ao n c, .int .i64 i0, .int .u64 bs, .int .u64 sz, .int .u64 md, .int .u8 mask, .int .i64 width] w fun e w' =>
      e = .returned (.tuple #[.int .u64 (FR mask ds n width.toNat 0 0 i0).1, .bool (FR mask ds n width.toNat 0 0 i0).2.1, .int .i64 (FR mask ds n width.toNat 0 0 i0).2.2]) ∧ Below w.heap.size w w' := by
  have hlt : ∀ ad, ao = some ad → ∀ j, j < n → (ad.add j).block < w.heap.size := fun ad h j hj => World.block_lt_of_cell? w _ (hc ad h j hj)
  have HC : Hid (∀ ad, ao = some ad → ∀ j, j < n → w.cell? (ad.add j) = some (.int .u8 (ds[j]?.getD 0))) := hc
  have HL : Hid (∀ ad, ao = some ad → ∀ j, j < n → (ad.add j).block < w.heap.size) := hlt
  have HN : Hid (ao = none → n = 0) := hnone
  clear hc hlt hnone
  generalize hR : FR mask ds n width.toNat 0 0 i0 = R
  have HR : Hid (FR mask ds n width.toNat 0 0 i0 = R) := hR
  clear hR
  go_enter Try.func9, Try.ntmps9
  go_wp2_with fail
  refine (fields_any w.heap.size n c i0 ao ds mask width _ ?_ ?_ ?_ hm0 hm1 hw hn hi HN.out ?_).mono ?_
  · simp [go_sem]
  · simp [go_sem]
  · simp [go_sem]
  · intro ad h j hj
    have h1 := HL.out ad h j hj
    refine ⟨by omega, ?_⟩
    rw [World.cell?_alloc_lt _ _ _ h1]; exact HC.out ad h j hj
  · rintro e w1 ⟨rfl, h1, hg⟩
    rw [HR.out] at h1 ⊢
    go_wp2_with fail
    go_quiet (fail)
    go_wp2
    go_ret3
    refine ⟨rfl, ?_⟩
    exact below_drewN (((Below.refl _ _).alloc (Nat.le_refl _) _).grown hg (by simp) (by intro k hk; cases hk; exact Nat.le_refl _)) _
end Go.Proofs.Qxb6605873a
