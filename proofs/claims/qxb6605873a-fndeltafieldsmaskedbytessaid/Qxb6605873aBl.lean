/-
  PLAIN: the nonzero bytes of a number and their mask.
-/
import Derived.Test.Qxb6605873aFR
namespace Go.Proofs.Qxb6605873a
open Go.RowKit

/-- Byte k of x. -/
def byteK (x : Int) (k : Nat) : Int := x / 2 ^ (8 * k) % 256
/-- The bytes of x below byte k that are not zero. -/
def Bl (x : Int) : Nat → List Int
  | 0 => []
  | k + 1 => if byteK x k = 0 then Bl x k else Bl x k ++ [byteK x k]
/-- Their mask. -/
def Mk (x : Int) : Nat → Int
  | 0 => 0
  | k + 1 => if byteK x k = 0 then Mk x k else bits BinOp.or IntKind.u8 (Mk x k) (2 ^ k % 256)

theorem Bl_zero {x : Int} {k : Nat} (h : byteK x k = 0) : Bl x (k + 1) = Bl x k := by simp [Bl, h]
theorem Bl_some {x : Int} {k : Nat} (h : ¬ byteK x k = 0) : Bl x (k + 1) = Bl x k ++ [byteK x k] := by simp [Bl, h]
theorem Mk_zero {x : Int} {k : Nat} (h : byteK x k = 0) : Mk x (k + 1) = Mk x k := by simp [Mk, h]
theorem Mk_some {x : Int} {k : Nat} (h : ¬ byteK x k = 0) : Mk x (k + 1) = bits BinOp.or IntKind.u8 (Mk x k) (2 ^ k % 256) := by simp [Mk, h]
theorem Bl_le (x : Int) (k : Nat) : (Bl x k).length ≤ k := by
  induction k with
  | zero => simp [Bl]
  | succ k ih => by_cases h : byteK x k = 0
                 · rw [Bl_zero h]; omega
                 · rw [Bl_some h]; simp; omega

/-! ### The number as a natural number -/
def byteN (X k : Nat) : Nat := X / 2 ^ (8 * k) % 256

theorem byteK_nat (X k : Nat) : byteK (X : Int) k = ((byteN X k : Nat) : Int) := by
  simp [byteK, byteN]

theorem mod_step (X k : Nat) : X % 2 ^ (8 * (k + 1)) = X % 2 ^ (8 * k) + 2 ^ (8 * k) * byteN X k := by
  rw [show 8 * (k + 1) = 8 * k + 8 by omega, Nat.pow_add, Nat.mod_mul]
  rfl

theorem wraps_u64 (n : Int) (h₀ : 0 ≤ n) (h₁ : n < 2 ^ 64) : IntKind.u64.wrap n = n := by rw [IntKind.wrap_u64]; omega

theorem orB_nat (X k : Nat) (hk : k < 8) : orB ((X % 2 ^ (8 * k) : Nat) : Int) ((byteN X k : Nat) : Int) k = ((X % 2 ^ (8 * (k + 1)) : Nat) : Int) := by
  have hb : byteN X k < 256 := Nat.mod_lt _ (by decide)
  have hp : 0 < 2 ^ (8 * k) := Nat.two_pow_pos _
  have h56 : 2 ^ (8 * k) * 256 ≤ 2 ^ 64 := by
    rw [show (256 : Nat) = 2 ^ 8 from rfl, ← Nat.pow_add]
    exact Nat.pow_le_pow_right (by decide) (by omega)
  have hlt : 2 ^ (8 * k) * byteN X k < 2 ^ 64 := Nat.lt_of_lt_of_le (Nat.mul_lt_mul_of_pos_left hb hp) h56
  have hV : X % 2 ^ (8 * k) < 2 ^ (8 * k) := Nat.mod_lt _ hp
  have hV64 : X % 2 ^ (8 * k) < 2 ^ 64 := by
    refine Nat.lt_of_lt_of_le hV ?_
    exact Nat.pow_le_pow_right (by decide) (by omega)
  unfold orB
  rw [wraps_u64 ((byteN X k : Nat) : Int) (by omega) (by omega)]
  have e : ((byteN X k : Nat) : Int) * 2 ^ (8 * k) = ((2 ^ (8 * k) * byteN X k : Nat) : Int) := by
    rw [Int.natCast_mul, Int.mul_comm]; simp
  rw [e, wraps_u64 _ (by omega) (by exact_mod_cast hlt), (bits_nat .u64 64 (by decide) wraps_u64 _ _ hV64 hlt).2, mod_step]
  congr 1
  rw [Nat.or_comm, ← Nat.two_pow_add_eq_or_of_lt hV]
  omega

/-! ### The mask -/
theorem pow_mod8 (j : Nat) (hj : j < 8) : (2 : Int) ^ j % 256 = ((2 ^ j : Nat) : Int) := by
  have h8 : (2 : Nat) ^ j < 2 ^ 8 := Nat.pow_lt_pow_right (by decide) (by omega)
  have e : ((2 ^ j : Nat) : Int) = (2 : Int) ^ j := by simp
  rw [← e]
  exact Int.emod_eq_of_lt (Int.natCast_nonneg _) (by omega)

def MkN (X : Nat) : Nat → Nat
  | 0 => 0
  | k + 1 => if byteN X k = 0 then MkN X k else MkN X k ||| 2 ^ k

theorem MkN_lt (X k : Nat) : MkN X k < 2 ^ k := by
  induction k with
  | zero => simp [MkN]
  | succ k ih =>
    have h2 : 2 ^ k < 2 ^ (k + 1) := Nat.pow_lt_pow_right (by decide) (by omega)
    simp only [MkN]
    split
    · omega
    · exact Nat.or_lt_two_pow (by omega) h2

theorem Mk_nat (X k : Nat) (hk : k ≤ 8) : Mk (X : Int) k = ((MkN X k : Nat) : Int) := by
  induction k with
  | zero => rfl
  | succ k ih =>
    have ih := ih (by omega)
    have hlt := MkN_lt X k
    have h8 : (2 : Nat) ^ k < 2 ^ 8 := Nat.pow_lt_pow_right (by decide) (by omega)
    by_cases h : byteN X k = 0
    · rw [Mk_zero (by rw [byteK_nat, h]; rfl), ih]; simp [MkN, h]
    · rw [Mk_some (by rw [byteK_nat]; omega), ih]
      rw [pow_mod8 k (by omega), (bits_nat .u8 8 (by decide) wraps_u8 _ _ (by omega) h8).2]
      simp [MkN, h]

theorem MkN_bit (X k j : Nat) : (MkN X k).testBit j = (decide (j < k) && decide (byteN X j ≠ 0)) := by
  induction k with
  | zero => simp [MkN]
  | succ k ih =>
    by_cases h : byteN X k = 0
    · simp only [MkN, h, if_true, ih]
      by_cases e : j = k
      · subst e; simp [h]
      · have : decide (j < k + 1) = decide (j < k) := by simp; omega
        rw [this]
    · simp only [MkN, h, if_false, Nat.testBit_or, ih, Nat.testBit_two_pow]
      by_cases e : j = k
      · subst e; simp [h]
      · have : decide (j < k + 1) = decide (j < k) := by simp; omega
        rw [this]; simp; omega

theorem bitZ_nat (M j : Nat) (hM : M < 256) (hj : j < 8) : bitZ (M : Int) j = !M.testBit j := by
  have h8 : (2 : Nat) ^ j < 2 ^ 8 := Nat.pow_lt_pow_right (by decide) (by omega)
  have hp : 0 < 2 ^ j := Nat.two_pow_pos _
  unfold bitZ
  rw [pow_mod8 j hj, (bits_nat .u8 8 (by decide) wraps_u8 _ _ (by omega) h8).1, nat_bit, Nat.testBit_eq_decide_div_mod_eq]
  have h2 : M / 2 ^ j % 2 = 0 ∨ M / 2 ^ j % 2 = 1 := by omega
  rcases h2 with h2 | h2
  · rw [h2]; simp
  · rw [h2]
    simp only [Nat.one_mul, decide_true, Bool.not_true, beq_eq_false_iff_ne, ne_eq]
    omega

theorem bitZ_mask (X j : Nat) (hj : j < 8) : bitZ (Mk (X : Int) 8) j = decide (byteN X j = 0) := by
  rw [Mk_nat X 8 (by omega), bitZ_nat _ j (MkN_lt X 8) hj, MkN_bit]
  simp [hj]

/-! ### The bytes -/
theorem Bl_prefix (x : Int) (k d : Nat) : Bl x k <+: Bl x (k + d) := by
  induction d with
  | zero => exact List.prefix_rfl
  | succ d ih =>
    rw [← Nat.add_assoc]
    by_cases h : byteK x (k + d) = 0
    · rw [Bl_zero h]; exact ih
    · rw [Bl_some h]; exact ih.trans (List.prefix_append _ _)

theorem Bl_at (x : Int) (k : Nat) (hk : k < 8) (h : ¬ byteK x k = 0) : (Bl x k).length < (Bl x 8).length ∧ (Bl x 8)[(Bl x k).length]? = some (byteK x k) := by
  have hp := Bl_prefix x (k + 1) (8 - (k + 1))
  rw [show k + 1 + (8 - (k + 1)) = 8 by omega, Bl_some h] at hp
  obtain ⟨t, ht⟩ := hp
  rw [← ht]
  simp

theorem FR_law (X : Nat) (hX : X < 2 ^ 64) (pre tail : List Int) : ∀ m k, 
    FR (Mk (X : Int) 8) (pre ++ Bl (X : Int) 8 ++ tail) (pre.length + (Bl (X : Int) 8).length + tail.length) m k ((X % 2 ^ (8 * k) : Nat) : Int) (pre.length + (Bl (X : Int) (min k 8)).length) =
      (((X % 2 ^ (8 * (k + m)) : Nat) : Int), true, pre.length + (Bl (X : Int) (min (k + m) 8)).length) := by
  intro m
  induction m with
  | zero => intro k; rfl
  | succ m ih =>
    intro k
    by_cases hk : 8 ≤ k
    · rw [FR_skip _ _ _ _ _ _ _ (Or.inl hk)]
      have e1 : ∀ q, 8 ≤ q → X % 2 ^ (8 * q) = X := fun q hq => Nat.mod_eq_of_lt (Nat.lt_of_lt_of_le hX (Nat.pow_le_pow_right (by decide) (by omega)))
      have := ih (k + 1)
      rw [e1 (k + 1) (by omega), show min (k + 1) 8 = 8 by omega, show k + 1 + m = k + (m + 1) by omega] at this
      rw [e1 k hk, show min k 8 = 8 by omega]
      exact this
    · have hk : k < 8 := by omega
      have := ih (k + 1)
      rw [show k + 1 + m = k + (m + 1) by omega] at this
      by_cases hb : byteN X k = 0
      · rw [FR_skip _ _ _ _ _ _ _ (Or.inr (by rw [bitZ_mask X k hk]; simpa using hb))]
        rw [mod_step, hb, Nat.mul_zero, show min (k + 1) 8 = k + 1 by omega, Bl_zero (x := (X : Int)) (k := k) (by rw [byteK_nat, hb]; rfl), Nat.add_zero (X % 2 ^ (8 * k))] at this
        rw [show min k 8 = k by omega]
        exact this
      · have hK : ¬ byteK (X : Int) k = 0 := by rw [byteK_nat]; omega
        obtain ⟨h1, h2⟩ := Bl_at (X : Int) k hk hK
        rw [show min k 8 = k by omega]
        rw [FR_take _ _ _ _ _ _ _ hk (by rw [bitZ_mask X k hk]; simpa using hb) (by omega)]
        have e : (pre ++ Bl (X : Int) 8 ++ tail)[pre.length + (Bl (X : Int) k).length]? = some ((byteN X k : Nat) : Int) := by
          rw [List.append_assoc, List.getElem?_append_right (by omega), Nat.add_sub_cancel_left, List.getElem?_append_left h1, h2, byteK_nat]
        rw [e, Option.getD_some, orB_nat X k hk]
        rw [show min (k + 1) 8 = k + 1 by omega, Bl_some hK] at this
        simpa [Nat.add_assoc] using this

theorem rt_law (x wd : Int) (pre tail : List Int) (n0 n3 : Nat) (h0 : pre.length = n0) (h3 : tail.length = n3) (hx0 : 0 ≤ x) (hx1 : x ≤ 18446744073709551615) (hJ : ∀ j : Nat, j < 8 → wd ≤ j → byteK x j = 0) :
    FR (Mk x 8) (pre ++ Bl x 8 ++ tail) (n0 + (Bl x 8).length + n3) wd.toNat 0 0 n0 = (x, true, n0 + (Bl x 8).length) := by
  obtain ⟨X, rfl⟩ := Int.eq_ofNat_of_zero_le hx0
  have hX : X < 2 ^ 64 := by omega
  subst h0 h3
  have key := FR_law X hX pre tail wd.toNat 0
  have hB0 : Bl (X : Int) 0 = [] := rfl
  simp only [Nat.mul_zero, Nat.pow_zero, Nat.mod_one, Nat.zero_add, Nat.zero_min, hB0, List.length_nil, Nat.add_zero, Int.natCast_zero] at key
  rw [key]
  have step : ∀ d k, wd.toNat ≤ k → k + d = 8 → X % 2 ^ (8 * k) = X ∧ (Bl (X : Int) k) = Bl (X : Int) 8 := by
    intro d
    induction d with
    | zero => intro k _ hk8; obtain rfl : k = 8 := by omega
              exact ⟨Nat.mod_eq_of_lt hX, rfl⟩
    | succ d ih =>
      intro k hk hk8
      have hz := hJ k (by omega) (by omega)
      obtain ⟨h1, h2⟩ := ih (k + 1) (by omega) (by omega)
      have hb : byteN X k = 0 := by rw [byteK_nat] at hz; omega
      rw [mod_step, hb, Nat.mul_zero, Nat.add_zero] at h1
      rw [Bl_zero hz] at h2
      exact ⟨h1, h2⟩
  by_cases hw : wd.toNat ≤ 8
  · obtain ⟨h1, h2⟩ := step (8 - wd.toNat) wd.toNat (Nat.le_refl _) (by omega)
    rw [h1, show min wd.toNat 8 = wd.toNat by omega, h2]
  · rw [show min wd.toNat 8 = 8 by omega, Nat.mod_eq_of_lt (Nat.lt_of_lt_of_le hX (Nat.pow_le_pow_right (by decide) (by omega)))]

theorem Mk_range (x : Int) (hx0 : 0 ≤ x) : 0 ≤ Mk x 8 ∧ Mk x 8 < 256 := by
  obtain ⟨X, rfl⟩ := Int.eq_ofNat_of_zero_le hx0
  rw [Mk_nat X 8 (by omega)]
  have := MkN_lt X 8
  omega
end Go.Proofs.Qxb6605873a
