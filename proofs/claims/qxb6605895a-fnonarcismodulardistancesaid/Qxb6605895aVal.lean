/-
  PLAIN: twenty bytes as a number, most significant first; their comparison.
-/
import Derived.WalkKit
import Derived.Lib.BytesEntry
namespace Go.Proofs.Qxb6605895a
open Go.RowKit

/-- The bytes as a number, most significant first. -/
def val : List Int → Nat
  | [] => 0
  | x :: xs => x.toNat * 256 ^ xs.length + val xs

def Bytes (xs : List Int) : Prop := ∀ x ∈ xs, 0 ≤ x ∧ x < 256

theorem val_lt : ∀ (xs : List Int), Bytes xs → val xs < 256 ^ xs.length
  | [], _ => by simp [val]
  | x :: xs, h => by
    have ih := val_lt xs (fun y hy => h y (by simp [hy]))
    have hx := h x (by simp)
    simp only [val, List.length_cons, Nat.pow_succ]
    have : x.toNat * 256 ^ xs.length + 256 ^ xs.length ≤ 256 * 256 ^ xs.length := by
      have : (x.toNat + 1) * 256 ^ xs.length ≤ 256 * 256 ^ xs.length := Nat.mul_le_mul_right _ (by omega)
      rw [Nat.add_mul, Nat.one_mul] at this
      exact this
    rw [Nat.mul_comm (256 ^ xs.length) 256]
    omega

/-- -1, 0, 1. -/
def cmpV (a b : Nat) : Int := if a < b then -1 else if b < a then 1 else 0

theorem toU8_lt {x y : Int} (hx : 0 ≤ x ∧ x < 256) (hy : 0 ≤ y ∧ y < 256) : (x.toNat.toUInt8 < y.toNat.toUInt8) ↔ x < y := by
  rw [UInt8.lt_iff_toNat_lt]
  simp only [Nat.toUInt8, UInt8.toNat_ofNat']
  omega

theorem compare_val : ∀ (xs ys : List Int), xs.length = ys.length → Bytes xs → Bytes ys → Lib.compareBytes (Lib.bytesOf xs) (Lib.bytesOf ys) = cmpV (val xs) (val ys)
  | [], [], _, _, _ => rfl
  | [], _ :: _, h, _, _ => by simp at h
  | _ :: _, [], h, _, _ => by simp at h
  | x :: xs, y :: ys, h, hx, hy => by
    have hl : xs.length = ys.length := by simpa using h
    have hx' : Bytes xs := fun z hz => hx z (by simp [hz])
    have hy' : Bytes ys := fun z hz => hy z (by simp [hz])
    have ih := compare_val xs ys hl hx' hy'
    have x0 := hx x (by simp)
    have y0 := hy y (by simp)
    have bx := val_lt xs hx'
    have by' := val_lt ys hy'
    rw [← hl] at by'
    have e1 : Lib.bytesOf (x :: xs) = x.toNat.toUInt8 :: Lib.bytesOf xs := rfl
    have e2 : Lib.bytesOf (y :: ys) = y.toNat.toUInt8 :: Lib.bytesOf ys := rfl
    rw [e1, e2]
    unfold Lib.compareBytes
    simp only [toU8_lt x0 y0, toU8_lt y0 x0]
    simp only [val, ← hl]
    generalize 256 ^ xs.length = M at *
    by_cases h1 : x < y
    · rw [if_pos h1]
      have : x.toNat * M + M ≤ y.toNat * M := by
        have : (x.toNat + 1) * M ≤ y.toNat * M := Nat.mul_le_mul_right _ (by omega)
        rw [Nat.add_mul, Nat.one_mul] at this; exact this
      unfold cmpV; rw [if_pos (by omega)]
    · rw [if_neg h1]
      by_cases h2 : y < x
      · rw [if_pos h2]
        have : y.toNat * M + M ≤ x.toNat * M := by
          have : (y.toNat + 1) * M ≤ x.toNat * M := Nat.mul_le_mul_right _ (by omega)
          rw [Nat.add_mul, Nat.one_mul] at this; exact this
        unfold cmpV; rw [if_neg (by omega), if_pos (by omega)]
      · rw [if_neg h2, ih]
        have : x.toNat = y.toNat := by omega
        rw [this]
        unfold cmpV
        simp

/-- The bytes as the cells of an array. -/
def idA (xs : List Int) : Array Value := (xs.map (Value.int .u8)).toArray
theorem idA_size (xs : List Int) : (idA xs).size = xs.length := by simp [idA]
theorem idA_get (xs : List Int) (j : Nat) (h : j < xs.length) : (idA xs)[j]? = some (.int .u8 (xs[j]?.getD 0)) := by
  simp [idA, List.getElem?_eq_getElem h]
theorem idA_one (xs : List Int) : (idA xs).all (·.oneCell') = true := by
  rw [Array.all_eq_true_iff_forall_mem]
  intro v hv
  simp only [idA, List.mem_toArray, List.mem_map] at hv
  obtain ⟨j, _, rfl⟩ := hv
  rfl

section
variable {P : Program}
/-- THE ENTRY internal/bytealg.Compare at two slices whose cells are known. -/
theorem run_compareSlices (w : World) (a b : Addr) (ca cb : Nat) (xs ys : List Int) (n : Nat) (hxn : xs.length = n) (hyn : ys.length = n) (bx : Bytes xs) (by' : Bytes ys)
    (hx : ∀ j x, xs[j]? = some x → w.cell? (a.add j) = some (.int .u8 x)) (hy : ∀ j x, ys[j]? = some x → w.cell? (b.add j) = some (.int .u8 x)) :
    (Extern.BytealgCompare.compare #[.slice (some a) n ca, .slice (some b) n cb]).run P w = .ok (.int .i64 (cmpV (val xs) (val ys))) w := by
  have h1 := Lib.run_loadBytesX (P := P) w xs a .empty hx
  have h2 := Lib.run_loadBytesX (P := P) w ys b .empty hy
  rw [hxn] at h1
  rw [hyn] at h2
  have he : ∀ l : List UInt8, (⟨ByteArray.empty.data ++ l.toArray⟩ : ByteArray) = ⟨l.toArray⟩ := fun l => by
    apply ByteArray.ext
    show (#[] : Array UInt8) ++ l.toArray = l.toArray
    simp
  rw [he] at h1 h2
  change Sem.run P (do pure (goInt (Extern.BytealgCompare.cmp (← Extern.Bytes.bytesOf (.slice (some a) n ca)) (← Extern.Bytes.bytesOf (.slice (some b) n cb))))) w = _
  simp only [Extern.Bytes.bytesOf, Sem.run_bind, Sem.run_pure, h1, h2, Result.andThen]
  rw [Lib.cmp_eq, ← compare_val xs ys (by omega) bx by']
  rfl
end
end Go.Proofs.Qxb6605895a
