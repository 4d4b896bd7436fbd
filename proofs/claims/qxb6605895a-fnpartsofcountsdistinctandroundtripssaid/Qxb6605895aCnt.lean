/-
  PLAIN: how many distinct numbers in range a list holds; the list of the marked parts.
-/
import Derived.Test.Qxb6605895aRowLaw
namespace Go.Proofs.Qxb6605895a
open Go.RowKit

/-- Of the first k numbers: how many are in range and stand there for the first time. -/
def dc (zs : List Int) : Nat → Nat
  | 0 => 0
  | k + 1 => if (0 ≤ zs[k]?.getD 0 ∧ zs[k]?.getD 0 < 64) ∧ mark (zs.take k) (zs[k]?.getD 0).toNat = false then dc zs k + 1 else dc zs k

theorem dc_out {zs : List Int} {k : Nat} (h : zs[k]?.getD 0 < 0 ∨ 64 ≤ zs[k]?.getD 0) : dc zs (k + 1) = dc zs k := by
  simp only [dc]; rw [if_neg (by omega)]
theorem dc_seen {zs : List Int} {k : Nat} (h : mark (zs.take k) (zs[k]?.getD 0).toNat = true) : dc zs (k + 1) = dc zs k := by
  simp only [dc]; rw [if_neg (by rw [h]; simp)]
theorem dc_new {zs : List Int} {k : Nat} (h0 : 0 ≤ zs[k]?.getD 0) (h1 : zs[k]?.getD 0 < 64) (h : mark (zs.take k) (zs[k]?.getD 0).toNat = false) : dc zs (k + 1) = dc zs k + 1 := by
  simp only [dc]; rw [if_pos ⟨⟨h0, h1⟩, h⟩]
theorem dc_le (zs : List Int) (k : Nat) : dc zs k ≤ k := by
  induction k with
  | zero => exact Nat.le_refl _
  | succ k ih => simp only [dc]; split <;> omega

/-- The marked parts below j, in order. -/
def nm (l : List Int) : Nat → List Int
  | 0 => []
  | j + 1 => if mark l j then nm l j ++ [(j : Int)] else nm l j
theorem nm_yes {l : List Int} {j : Nat} (h : mark l j = true) : nm l (j + 1) = nm l j ++ [(j : Int)] := by simp [nm, h]
theorem nm_no {l : List Int} {j : Nat} (h : mark l j = false) : nm l (j + 1) = nm l j := by simp [nm, h]
theorem nm_le (l : List Int) (j : Nat) : (nm l j).length ≤ j := by
  induction j with
  | zero => exact Nat.le_refl _
  | succ j ih => cases h : mark l j
                 · rw [nm_no h]; omega
                 · rw [nm_yes h]; simp; omega

def cntF (f : Nat → Bool) : Nat → Nat
  | 0 => 0
  | N + 1 => if f N then cntF f N + 1 else cntF f N

theorem nm_len (l : List Int) (N : Nat) : (nm l N).length = cntF (mark l) N := by
  induction N with
  | zero => rfl
  | succ N ih => simp only [nm, cntF]; split <;> simp [ih]

theorem cntF_snoc (l : List Int) (p : Int) (N : Nat) : cntF (mark (l ++ [p])) N = cntF (mark l) N + if (0 ≤ p ∧ p < N) ∧ mark l p.toNat = false then 1 else 0 := by
  induction N with
  | zero => simp only [cntF]; rw [if_neg (by omega)]
  | succ N ih =>
    simp only [cntF, mark_snoc, ih]
    by_cases e : p = (N : Int)
    · subst e
      simp only [beq_self_eq_true, Bool.or_true, if_true, Int.toNat_natCast]
      by_cases h : mark l N = true
      · rw [if_neg (by omega), if_pos h, if_neg (by rw [h]; simp)]
      · rw [if_neg (by omega), if_neg h, if_pos ⟨⟨by omega, by omega⟩, by simpa using h⟩]
    · have hb : (p == (N : Int)) = false := by simpa using e
      rw [hb, Bool.or_false]
      have hc : ((0 ≤ p ∧ p < ((N + 1 : Nat) : Int)) ∧ mark l p.toNat = false) ↔ ((0 ≤ p ∧ p < (N : Int)) ∧ mark l p.toNat = false) := by
        constructor
        · rintro ⟨⟨a, b⟩, c⟩; exact ⟨⟨a, by omega⟩, c⟩
        · rintro ⟨⟨a, b⟩, c⟩; exact ⟨⟨a, by omega⟩, c⟩
      by_cases hx : (0 ≤ p ∧ p < (N : Int)) ∧ mark l p.toNat = false
      · rw [if_pos hx, if_pos (hc.2 hx)]; cases mark l N <;> simp
      · rw [if_neg hx, if_neg (fun h => hx (hc.1 h))]; cases mark l N <;> simp

theorem dc_cnt (zs : List Int) : ∀ k, k ≤ zs.length → cntF (mark (zs.take k)) 64 = dc zs k := by
  intro k
  induction k with
  | zero => intro _; rfl
  | succ k ih =>
    intro hk
    rw [take_snoc zs k (by omega), cntF_snoc, ih (by omega)]
    simp only [dc]
    by_cases h : (0 ≤ zs[k]?.getD 0 ∧ zs[k]?.getD 0 < 64) ∧ mark (zs.take k) (zs[k]?.getD 0).toNat = false
    · rw [if_pos h]; rw [if_pos (show (0 ≤ zs[k]?.getD 0 ∧ zs[k]?.getD 0 < ((64 : Nat) : Int)) ∧ _ from ⟨⟨h.1.1, by have := h.1.2; omega⟩, h.2⟩)]
    · rw [if_neg h]; rw [if_neg (fun q => h ⟨⟨q.1.1, by have := q.1.2; omega⟩, q.2⟩)]; rfl

theorem nm_dc (zs : List Int) (n : Nat) (h : n ≤ zs.length) : (nm (zs.take n) 64).length = dc zs n := by rw [nm_len, dc_cnt zs n h]

theorem mark_nm (l : List Int) (N j : Nat) : mark (nm l N) j = (decide (j < N) && mark l j) := by
  induction N with
  | zero => simp [nm, mark]
  | succ N ih =>
    cases h : mark l N
    · rw [nm_no h, ih]
      by_cases e : j = N
      · subst e; simp [h]
      · have : decide (j < N + 1) = decide (j < N) := by simp; omega
        rw [this]
    · rw [nm_yes h, mark_snoc, ih]
      by_cases e : j = N
      · subst e; simp [h]
      · have h1 : decide (j < N + 1) = decide (j < N) := by simp; omega
        have h2 : ((N : Int) == (j : Int)) = false := by simp; omega
        rw [h1, h2, Bool.or_false]

theorem marks_nm (l : List Int) : marks (nm l 64) = marks l := by
  unfold marks
  congr 1
  apply List.map_congr_left
  intro j hj
  have := List.mem_range.1 hj
  rw [mark_nm]; simp [this]
end Go.Proofs.Qxb6605895a
