/-
  PLAIN: how many bits of a mask are set below a place; what fields reads under a mask.
-/
import Derived.Test.Qxb6605873aBl
namespace Go.Proofs.Qxb6605873a
open Go.RowKit

def skipB (mw : Int) (k : Nat) : Bool := decide (8 ≤ k) || bitZ mw k
/-- How many bits of mw are set below place k. -/
def cntM (mw : Int) : Nat → Nat
  | 0 => 0
  | k + 1 => if skipB mw k then cntM mw k else cntM mw k + 1
/-- What has been gathered below place k. -/
def wtM (mw : Int) (ds : List Int) (i0 : Nat) : Nat → Int
  | 0 => 0
  | k + 1 => if skipB mw k then wtM mw ds i0 k else orB (wtM mw ds i0 k) (ds[i0 + cntM mw k]?.getD 0) k

theorem cnt_skip {mw : Int} {k : Nat} (h : skipB mw k = true) : cntM mw (k + 1) = cntM mw k := by simp [cntM, h]
theorem cnt_take {mw : Int} {k : Nat} (h : skipB mw k = false) : cntM mw (k + 1) = cntM mw k + 1 := by simp [cntM, h]
theorem wt_skip {mw : Int} {ds : List Int} {i0 k : Nat} (h : skipB mw k = true) : wtM mw ds i0 (k + 1) = wtM mw ds i0 k := by simp [wtM, h]
theorem wt_take {mw : Int} {ds : List Int} {i0 k : Nat} (h : skipB mw k = false) : wtM mw ds i0 (k + 1) = orB (wtM mw ds i0 k) (ds[i0 + cntM mw k]?.getD 0) k := by simp [wtM, h]

theorem cnt_le (mw : Int) (k : Nat) : cntM mw k ≤ k := by
  induction k with
  | zero => exact Nat.le_refl _
  | succ k ih => cases h : skipB mw k
                 · rw [cnt_take h]; omega
                 · rw [cnt_skip h]; omega

theorem cnt_mono (mw : Int) (k d : Nat) : cntM mw k ≤ cntM mw (k + d) := by
  induction d with
  | zero => exact Nat.le_refl _
  | succ d ih => rw [← Nat.add_assoc]
                 cases h : skipB mw (k + d)
                 · rw [cnt_take h]; omega
                 · rw [cnt_skip h]; exact ih

/-- From place k on all is skipped: nothing turns. -/
theorem still (mw : Int) (ds : List Int) (i0 k d : Nat) (h : ∀ j, k ≤ j → skipB mw j = true) : cntM mw (k + d) = cntM mw k ∧ wtM mw ds i0 (k + d) = wtM mw ds i0 k := by
  induction d with
  | zero => exact ⟨rfl, rfl⟩
  | succ d ih => rw [← Nat.add_assoc, cnt_skip (h _ (by omega)), wt_skip (h _ (by omega))]; exact ih

theorem FR_mask (mask mw : Int) (ds : List Int) (n i0 W : Nat) (H1 : ∀ k, k < W → skipB mask k = skipB mw k) :
    ∀ m k, k + m = W → i0 + cntM mw k ≤ n → FR mask ds n m k (wtM mw ds i0 k) (i0 + cntM mw k) = if i0 + cntM mw W ≤ n then (wtM mw ds i0 W, true, i0 + cntM mw W) else (0, false, n) := by
  intro m
  induction m with
  | zero => intro k hk hn; obtain rfl : k = W := by omega
            rw [if_pos hn]; rfl
  | succ m ih =>
    intro k hk hn
    have hs := H1 k (by omega)
    cases h : skipB mw k
    · rw [h] at hs
      have h8 : k < 8 ∧ bitZ mask k = false := by simpa [skipB] using hs
      by_cases hI : i0 + cntM mw k = n
      · rw [FR_stop _ _ _ _ _ _ _ h8.1 h8.2 hI, if_neg, hI]
        have := cnt_mono mw (k + 1) m
        rw [cnt_take h, show k + 1 + m = W by omega] at this
        omega
      · rw [FR_take _ _ _ _ _ _ _ h8.1 h8.2 hI]
        have := ih (k + 1) (by omega) (by rw [cnt_take h]; omega)
        rw [cnt_take h, wt_take h] at this
        exact this
    · rw [h] at hs
      have h8 : 8 ≤ k ∨ bitZ mask k = true := by simpa [skipB] using hs
      rw [FR_skip _ _ _ _ _ _ _ h8]
      have := ih (k + 1) (by omega) (by rw [cnt_skip h]; omega)
      rw [cnt_skip h, wt_skip h] at this
      exact this

/-- THE LAW: mw is the mask cut to the width. -/
theorem mask_law (mask mw wd : Int) (ds : List Int) (n i0 : Nat) (hn : i0 ≤ n) (H1 : ∀ k, k < wd.toNat → skipB mask k = skipB mw k) (H2 : ∀ k, wd.toNat ≤ k → skipB mw k = true) :
    FR mask ds n wd.toNat 0 0 i0 = if i0 + cntM mw 8 ≤ n then (wtM mw ds i0 8, true, i0 + cntM mw 8) else (0, false, n) := by
  have key := FR_mask mask mw ds n i0 wd.toNat H1 wd.toNat 0 (by omega) (by simpa [cntM] using hn)
  have e8 : cntM mw 8 = cntM mw wd.toNat ∧ wtM mw ds i0 8 = wtM mw ds i0 wd.toNat := by
    by_cases h : wd.toNat ≤ 8
    · have := still mw ds i0 wd.toNat (8 - wd.toNat) H2
      rwa [show wd.toNat + (8 - wd.toNat) = 8 by omega] at this
    · have := still mw ds i0 8 (wd.toNat - 8) (fun j hj => by simp [skipB, hj])
      rw [show 8 + (wd.toNat - 8) = wd.toNat by omega] at this
      exact ⟨this.1.symm, this.2.symm⟩
  rw [e8.1, e8.2]
  exact key

/-! ### Bits -/
def lowB (wd : Int) : Int := if wd ≤ 0 then 0 else if 8 ≤ wd then 255 else (2 ^ wd.toNat % 256 - 1) % 256

theorem and_nat8 (a b : Nat) (ha : a < 256) (hb : b < 256) : bits BinOp.and IntKind.u8 (a : Int) (b : Int) = ((a &&& b : Nat) : Int) :=
  (bits_nat .u8 8 (by decide) wraps_u8 a b ha hb).1

theorem pow8_lt (k : Nat) (hk : k < 8) : (2 : Nat) ^ k < 256 := Nat.pow_lt_pow_right (a := 2) (m := k) (n := 8) (by decide) hk

theorem lows (k : Nat) (hk : k < 8) : ((2 : Int) ^ k % 256 - 1) % 256 = ((2 ^ k - 1 : Nat) : Int) := by
  have h1 := pow8_lt k hk
  have h2 := Nat.two_pow_pos k
  rw [pow_mod8 k hk]
  omega

theorem lowB_nat (wd : Int) : lowB wd = ((2 ^ (min wd.toNat 8) - 1 : Nat) : Int) := by
  unfold lowB
  split
  · rw [show wd.toNat = 0 by omega]; rfl
  · split
    · rw [show min wd.toNat 8 = 8 by omega]; rfl
    · rw [show min wd.toNat 8 = wd.toNat by omega, lows wd.toNat (by omega)]

theorem bit_low (j k : Nat) : (2 ^ k - 1).testBit j = decide (j < k) := Nat.testBit_two_pow_sub_one k j

/-- The mask cut to the width. -/
def mwOf (mask wd : Int) : Int := bits BinOp.and IntKind.u8 mask (lowB wd)

theorem mwOf_nat (M : Nat) (wd : Int) (hM : M < 256) : mwOf (M : Int) wd = ((M &&& (2 ^ (min wd.toNat 8) - 1) : Nat) : Int) := by
  have h2 := Nat.two_pow_pos (min wd.toNat 8)
  have h1 : 2 ^ (min wd.toNat 8) ≤ 2 ^ 8 := Nat.pow_le_pow_right (by decide) (by omega)
  unfold mwOf
  rw [lowB_nat, and_nat8 _ _ hM (by omega)]

theorem mwOf_range (mask wd : Int) (h0 : 0 ≤ mask) (h1 : mask < 256) : 0 ≤ mwOf mask wd ∧ mwOf mask wd < 256 := by
  obtain ⟨M, rfl⟩ := Int.eq_ofNat_of_zero_le h0
  have hM : M < 256 := by omega
  rw [mwOf_nat M wd hM]
  have : M &&& (2 ^ (min wd.toNat 8) - 1) ≤ M := Nat.and_le_left
  omega

theorem mw_bits (mask wd : Int) (h0 : 0 ≤ mask) (h1 : mask < 256) : (∀ k, k < wd.toNat → skipB mask k = skipB (mwOf mask wd) k) ∧ (∀ k, wd.toNat ≤ k → skipB (mwOf mask wd) k = true) := by
  obtain ⟨M, rfl⟩ := Int.eq_ofNat_of_zero_le h0
  have hM : M < 256 := by omega
  have hle : M &&& (2 ^ (min wd.toNat 8) - 1) ≤ M := Nat.and_le_left
  have key : ∀ k, k < 8 → bitZ (mwOf (M : Int) wd) k = !(M.testBit k && decide (k < min wd.toNat 8)) := by
    intro k hk
    rw [mwOf_nat M wd hM, bitZ_nat _ k (by omega) hk, Nat.testBit_and, bit_low]
  constructor
  · intro k hk
    by_cases h8 : k < 8
    · unfold skipB
      rw [key k h8, bitZ_nat M k hM h8]
      have : decide (k < min wd.toNat 8) = true := by simp; omega
      rw [this, Bool.and_true]
    · simp [skipB, show 8 ≤ k by omega]
  · intro k hk
    by_cases h8 : k < 8
    · unfold skipB
      rw [key k h8]
      have : decide (k < min wd.toNat 8) = false := by simp; omega
      rw [this]; simp
    · simp [skipB, show 8 ≤ k by omega]

/-- The mask cut below place k, and its bits counted: the bits below place k. -/
theorem cnt_cut (mw : Int) (h0 : 0 ≤ mw) (h1 : mw < 256) (k : Nat) (hk : k < 8) :
    0 ≤ bits BinOp.and IntKind.u8 mw ((2 ^ k % 256 - 1) % 256) ∧ bits BinOp.and IntKind.u8 mw ((2 ^ k % 256 - 1) % 256) < 256 ∧ cntM (bits BinOp.and IntKind.u8 mw ((2 ^ k % 256 - 1) % 256)) 8 = cntM mw k := by
  obtain ⟨M, rfl⟩ := Int.eq_ofNat_of_zero_le h0
  have hM : M < 256 := by omega
  have hp := pow8_lt k hk
  have hle : M &&& (2 ^ k - 1) ≤ M := Nat.and_le_left
  rw [lows k hk, and_nat8 _ _ hM (by omega)]
  refine ⟨by omega, by omega, ?_⟩
  have key : ∀ j, skipB ((M &&& (2 ^ k - 1) : Nat) : Int) j = (decide (k ≤ j) || skipB (M : Int) j) := by
    intro j
    by_cases h8 : j < 8
    · unfold skipB
      rw [bitZ_nat _ j (by omega) h8, bitZ_nat M j hM h8, Nat.testBit_and, bit_low]
      by_cases e : j < k
      · simp [e]; omega
      · simp [e]; omega
    · simp [skipB, show 8 ≤ j by omega]
  have a : ∀ j, j ≤ k → cntM ((M &&& (2 ^ k - 1) : Nat) : Int) j = cntM (M : Int) j := by
    intro j
    induction j with
    | zero => intro _; rfl
    | succ j ih =>
      intro hj
      have hkj := key j
      rw [show decide (k ≤ j) = false by simp; omega, Bool.false_or] at hkj
      cases h : skipB (M : Int) j
      · rw [cnt_take h, cnt_take (by rw [hkj]; exact h), ih (by omega)]
      · rw [cnt_skip h, cnt_skip (by rw [hkj]; exact h), ih (by omega)]
  have b := (still ((M &&& (2 ^ k - 1) : Nat) : Int) [] 0 k (8 - k) (fun j hj => by rw [key j]; simp [hj])).1
  rw [show k + (8 - k) = 8 by omega] at b
  rw [b, a k (Nat.le_refl _)]

theorem lows' (k : Nat) (hk : k < 8) : ((2 : Int) ^ k - 1) % 256 = (2 ^ k % 256 - 1) % 256 := by
  rw [lows k hk]
  have h1 := pow8_lt k hk
  have h2 := Nat.two_pow_pos k
  have e : (2 : Int) ^ k = ((2 ^ k : Nat) : Int) := by simp
  rw [e]
  omega

theorem cnt_cut' (mw : Int) (h0 : 0 ≤ mw) (h1 : mw < 256) (k : Nat) (hk : k < 8) : cntM (bits BinOp.and IntKind.u8 mw ((2 ^ k - 1) % 256)) 8 = cntM mw k := by
  rw [lows' k hk]; exact (cnt_cut mw h0 h1 k hk).2.2
end Go.Proofs.Qxb6605873a
