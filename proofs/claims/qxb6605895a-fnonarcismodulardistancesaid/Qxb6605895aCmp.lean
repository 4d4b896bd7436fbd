/-
  The walks of bytes.Compare (23), ID.Cmp (22).
-/
import Derived.Test.Qxb6605895aProg
import Derived.Test.Qxb6605895aRowLaw
import Derived.Test.Qxb6605895aVal
import Derived.Deep.RegionHeld3
import Derived.Deep.QuietTactic
import Derived.BigQuiet
namespace Go.Proofs.Qxb6605895a
open Go.RowKit

theorem Try.size32 : (Try.prog.info? 32).map (·.size) = some 20 := by kernel_rfl

set_option maxHeartbeats 1000000 in
theorem compare_any (a b : Addr) (ca cb : Nat) (xs ys : List Int) (w : World) (hxn : xs.length = 20) (hyn : ys.length = 20) (bx : Bytes xs) (by' : Bytes ys)
    (hx : ∀ j x, xs[j]? = some x → w.cell? (a.add j) = some (.int .u8 x)) (hy : ∀ j x, ys[j]? = some x → w.cell? (b.add j) = some (.int .u8 x)) :
    Calls Try.prog 23 #[.slice (some a) 20 ca, .slice (some b) 20 cb] w fun e w' => e = .returned (.int .i64 (cmpV (val xs) (val ys))) ∧ w' = w := by
  have hc := run_compareSlices (P := Try.prog) w a b ca cb xs ys 20 hxn hyn bx by' hx hy
  go_enter Try.func23, Try.ntmps23
  go_wp2
  rw [run_callFunc_extern Try.func24 (by kernel_rfl) (by kernel_rfl) (by kernel_rfl) (e := Extern.BytealgCompare.compare) (by kernel_rfl), hc]
  simp only [Result.andThen]
  rw [Oper.upon_value]
  go_wp2
  go_ret
  exact ⟨rfl, rfl⟩

set_option maxRecDepth 100000 in
set_option maxHeartbeats 1000000 in
theorem cmp_any (xs ys : List Int) (w : World) (hxn : xs.length = 20) (hyn : ys.length = 20) (bx : Bytes xs) (by' : Bytes ys) :
    Calls Try.prog 22 #[.agg (idA xs), .agg (idA ys)] w fun e w' => e = .returned (.int .i64 (cmpV (val xs) (val ys))) ∧ Below w.heap.size w w' := by
  go_enter Try.func22, Try.ntmps22
  go_wp2_with fail
  have hX : ∀ j x, xs[j]? = some x → ((w.alloc (.cells (idA xs) 32)).alloc (.cells (idA ys) 32)).cell? ((⟨w.heap.size, 0, none⟩ : Addr).add j) = some (.int .u8 x) := fun j x h => by
    rw [Addr.add_lit, cell_of_row _ _ _ _ _ _ (heap_alloc2_old _ _ _)]
    simp [idA, h]
  have hY : ∀ j x, ys[j]? = some x → ((w.alloc (.cells (idA xs) 32)).alloc (.cells (idA ys) 32)).cell? ((⟨w.heap.size + 1, 0, none⟩ : Addr).add j) = some (.int .u8 x) := fun j x h => by
    rw [Addr.add_lit, cell_of_row _ _ _ _ _ _ (heap_alloc2_new _ _ _)]
    simp [idA, h]
  have HX : Hid (∀ j x, xs[j]? = some x → ((w.alloc (.cells (idA xs) 32)).alloc (.cells (idA ys) 32)).cell? ((⟨w.heap.size, 0, none⟩ : Addr).add j) = some (.int .u8 x)) := hX
  have HY : Hid (∀ j x, ys[j]? = some x → ((w.alloc (.cells (idA xs) 32)).alloc (.cells (idA ys) 32)).cell? ((⟨w.heap.size + 1, 0, none⟩ : Addr).add j) = some (.int .u8 x)) := hY
  clear hX hY
  go_quiet ((go_at_call 23; exact Calls.quiet_of_same (compare_any _ _ _ _ xs ys _ hxn hyn bx by' HX.out HY.out)))
  go_wp2_with fail
  go_ret
  refine ⟨rfl, below_drewN (((Below.refl _ _).alloc (Nat.le_refl _) _).alloc (by simp) _) _⟩
end Go.Proofs.Qxb6605895a
