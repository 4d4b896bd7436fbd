/-
  SMALL LAWS: '==' between two arrays whose elements are of one cell each.
-/
import Derived.WalkKit
import Derived.ChangeKeysEq
namespace Go.Proofs.Qxb6605895a
open Go.RowKit
section
variable {P : Program}

theorem run_eqItems_row (w : World) (d : Nat) {e : TypeId} (hp : P.plainKey e = true) (xs ys : Array Value) (X Y : Nat → Value) (r : Nat → Bool) :
    ∀ (is : List Nat), (∀ j ∈ is, xs[j]? = some (X j) ∧ ys[j]? = some (Y j) ∧ (Op.equalIn d e (X j) (Y j)).run P w = .ok (r j) w) →
      (Op.eqItems d e 1 xs ys is).run P w = .ok (is.all r) w
  | [], _ => by simp [Op.eqItems]
  | j :: is, h => by
    obtain ⟨h1, h2, h3⟩ := h j (by simp)
    have ih := run_eqItems_row w d hp xs ys X Y r is (fun q hq => h q (by simp [hq]))
    simp only [Op.eqItems, Nat.mul_one, Sem.run_bind, run_part_plain w hp h1, run_part_plain w hp h2, h3, Result.andThen_ok]
    cases hr : r j
    · simp [hr]
    · simpa [hr] using ih

/-- '==' between two arrays of n one-cell elements: all pairs are equal. -/
theorem run_equalIn_row (w : World) (d : Nat) {t e : TypeId} {n : Nat} {i : TypeInfo} (hu : P.underlying t = some (.array n e)) (hi : P.info? e = some i) (hc : P.cellsOf e = 1) (hp : P.plainKey e = true)
    (xs ys : Array Value) (X Y : Nat → Value) (r : Nat → Bool) (h : ∀ j, j < n → xs[j]? = some (X j) ∧ ys[j]? = some (Y j) ∧ (Op.equalIn d e (X j) (Y j)).run P w = .ok (r j) w) :
    (Op.equalIn (d + 1) t (.agg xs) (.agg ys)).run P w = .ok ((List.range n).all r) w := by
  rw [run_equalIn_array w d xs ys hu hi, hc]
  exact run_eqItems_row w d hp xs ys X Y r (List.range n) (fun j hj => h j (List.mem_range.1 hj))
end
end Go.Proofs.Qxb6605895a
