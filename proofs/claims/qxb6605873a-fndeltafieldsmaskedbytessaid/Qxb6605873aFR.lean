/-
  PLAIN: what (*deltaReader).fields computes; and small laws on worlds.
-/
import Derived.WalkKit
import Derived.Deep.OwnRows
import Derived.Deep.Draws
namespace Go.Proofs.Qxb6605873a
open Go.RowKit

/-- Does the k-th bit of mask (k below 8) say no? -/
def bitZ (mask : Int) (k : Nat) : Bool := bits BinOp.and IntKind.u8 mask (2 ^ k % 256) == 0
/-- The number with byte b laid in at byte k. -/
def orB (V : Int) (b : Int) (k : Nat) : Int := bits BinOp.or IntKind.u64 V (IntKind.u64.wrap (IntKind.u64.wrap b * 2 ^ (8 * k)))

/-- The loop of fields: m rounds are left, the next is round k, V is gathered, I bytes are read. -/
def FR (mask : Int) (ds : List Int) (n : Nat) : Nat → Nat → Int → Nat → Int × Bool × Nat
  | 0, _, V, I => (V, true, I)
  | m + 1, k, V, I =>
    if 8 ≤ k ∨ bitZ mask k = true then FR mask ds n m (k + 1) V I
    else if I = n then (0, false, I)
    else FR mask ds n m (k + 1) (orB V (ds[I]?.getD 0) k) (I + 1)

theorem FR_skip (mask : Int) (ds : List Int) (n m k : Nat) (V : Int) (I : Nat) (h : 8 ≤ k ∨ bitZ mask k = true) : FR mask ds n (m + 1) k V I = FR mask ds n m (k + 1) V I := by
  simp [FR, h]
theorem FR_stop (mask : Int) (ds : List Int) (n m k : Nat) (V : Int) (I : Nat) (h : k < 8) (hz : bitZ mask k = false) (hI : I = n) : FR mask ds n (m + 1) k V I = (0, false, I) := by
  have h8 : ¬ 8 ≤ k := by omega
  simp [FR, h8, hz, hI]
theorem FR_take (mask : Int) (ds : List Int) (n m k : Nat) (V : Int) (I : Nat) (h : k < 8) (hz : bitZ mask k = false) (hI : ¬ I = n) :
    FR mask ds n (m + 1) k V I = FR mask ds n m (k + 1) (orB V (ds[I]?.getD 0) k) (I + 1) := by
  have h8 : ¬ 8 ≤ k := by omega
  simp [FR, h8, hz, hI]

theorem and_zero_u8 (mask : Int) (h0 : 0 ≤ mask) (h1 : mask < 256) : (bits BinOp.and IntKind.u8 mask 0 == 0) = true := by
  obtain ⟨a, rfl⟩ := Int.eq_ofNat_of_zero_le h0
  have := (bits_nat .u8 8 (by decide) wraps_u8 a 0 (by omega) (by omega)).1
  simp only [Int.natCast_zero, Nat.and_zero] at this
  rw [this]; rfl

theorem grownBy_drewN {w wr : World} {row : Option Nat} (h : w.grownBy wr row) (n : Nat) : w.grownBy (wr.drewN n) row := ⟨h.os, h.tape, h.output, h.size, h.block⟩

theorem grownBy_setCell {w wr : World} {p : Nat} (h : w.grownBy wr (some p)) (o : Nat) (v : Value) : w.grownBy (wr.setCell ⟨p, o, none⟩ v) (some p) :=
  ⟨h.os, h.tape, h.output, by have := h.size; simp [World.setCell]; exact this, fun k hk hne => by
    rw [Below.heap_setCell _ _ _ _ (by simpa using hne)]; exact h.block k hk hne⟩

theorem cell_set_same {w : World} {a : Addr} {u v : Value} (h : w.cell? a = some u) : (w.setCell a v).cell? a = some v :=
  World.cell?_setCell_same' w a v (by rw [h]; rfl)
theorem cell_set_off {w : World} {b o o' : Nat} {v : Value} (h : o ≠ o') : (w.setCell ⟨b, o, none⟩ v).cell? ⟨b, o', none⟩ = w.cell? ⟨b, o', none⟩ :=
  World.cell?_setCell_other _ _ _ _ (fun e => h (by injection e))

end Go.Proofs.Qxb6605873a
