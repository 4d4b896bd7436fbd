/-
  PLAIN: the cells of a row of integers of which the first k have been copied and the others are zero.
-/
import Derived.WalkKit
import Derived.Deep.OwnRows
namespace Go.Proofs.Qxb6605873a
open Go.RowKit

/-- After k rounds: the first k numbers are copied, the rest is zero. -/
def cpK (kd : IntKind) (zs : List Int) (len k : Nat) : Array Value := ((zs.take k).map (Value.int kd) ++ List.replicate (len - k) (Value.int kd 0)).toArray

theorem cpK_at (kd : IntKind) (zs : List Int) (len k : Nat) (hk : k < len) (hl : len ≤ zs.length) : (cpK kd zs len k)[k]? = some (.int kd 0) := by
  have h1 : ((zs.take k).map (Value.int kd)).length = k := by simp; omega
  simp only [cpK, List.getElem?_toArray]
  rw [List.getElem?_append_right (by omega)]
  simp [List.getElem?_replicate]; omega

theorem cpK_succ (kd : IntKind) (zs : List Int) (len k : Nat) (hk : k < len) (hl : len ≤ zs.length) : (cpK kd zs len k).setIfInBounds k (.int kd (zs[k]?.getD 0)) = cpK kd zs len (k + 1) := by
  have h1 : ((zs.take k).map (Value.int kd)).length = k := by simp; omega
  apply Array.ext'
  simp only [cpK, Array.toList_setIfInBounds]
  rw [List.set_append_right _ _ (by omega), h1, Nat.sub_self]
  have : len - k = (len - (k + 1)) + 1 := by omega
  rw [this, List.replicate_succ, List.set_cons_zero, List.take_succ_eq_append_getElem (by omega), List.map_append, List.getElem?_eq_getElem (show k < zs.length by omega), Option.getD_some, List.append_assoc]
  rfl

theorem cpK_zero (kd : IntKind) (zs : List Int) (len : Nat) : madeCells #[Value.int kd 0] len = cpK kd zs len 0 := by
  apply Array.ext
  · simp [cpK, size_madeCells]
  · intro i h1 h2
    simp [cpK, madeCells, Nat.mod_one]

theorem cpK_size (kd : IntKind) (zs : List Int) (len : Nat) (hl : len ≤ zs.length) : (cpK kd zs len len).size = len := by
  simp [cpK]; omega

theorem cpK_get (kd : IntKind) (zs : List Int) (len i : Nat) (hi : i < len) (hl : len ≤ zs.length) : (cpK kd zs len len)[i]? = some (.int kd (zs[i]?.getD 0)) := by
  simp only [cpK, List.getElem?_toArray]
  rw [List.getElem?_append_left (by simp; omega)]
  simp [hi, List.getElem?_eq_getElem (show i < zs.length by omega)]

end Go.Proofs.Qxb6605873a
