/-
  PLAIN: twenty bytes subtracted, tested for zero, compared; the distance on the ring.
-/
import Derived.Test.Qxb6605895aEqId
namespace Go.Proofs.Qxb6605895a
open Go.RowKit

/-- The difference, byte by byte from the last, and the borrow that is left. -/
def subB : List Int → List Int → List Int × Int
  | x :: xs, y :: ys => if x - y - (subB xs ys).2 < 0 then ((x - y - (subB xs ys).2 + 256) :: (subB xs ys).1, 1) else ((x - y - (subB xs ys).2) :: (subB xs ys).1, 0)
  | _, _ => ([], 0)

theorem subB_neg (x y : Int) (xs ys : List Int) (h : x - y - (subB xs ys).2 < 0) : subB (x :: xs) (y :: ys) = ((x - y - (subB xs ys).2 + 256) :: (subB xs ys).1, 1) := by
  conv => lhs; unfold subB
  rw [if_pos h]
theorem subB_pos (x y : Int) (xs ys : List Int) (h : ¬ x - y - (subB xs ys).2 < 0) : subB (x :: xs) (y :: ys) = ((x - y - (subB xs ys).2) :: (subB xs ys).1, 0) := by
  conv => lhs; unfold subB
  rw [if_neg h]

theorem subB_bit : ∀ (xs ys : List Int), (subB xs ys).2 = 0 ∨ (subB xs ys).2 = 1
  | [], [] => .inl rfl
  | [], _ :: _ => .inl rfl
  | _ :: _, [] => .inl rfl
  | x :: xs, y :: ys => by
    by_cases h : x - y - (subB xs ys).2 < 0
    · rw [subB_neg _ _ _ _ h]; exact .inr rfl
    · rw [subB_pos _ _ _ _ h]; exact .inl rfl

theorem subB_law : ∀ (xs ys : List Int), xs.length = ys.length → Bytes xs → Bytes ys →
    (subB xs ys).1.length = xs.length ∧ Bytes (subB xs ys).1 ∧ (val (subB xs ys).1 : Int) + val ys = val xs + (subB xs ys).2 * (256 ^ xs.length : Nat)
  | [], [], _, _, _ => ⟨rfl, fun _ h => (by cases h), by simp [subB, val]⟩
  | [], _ :: _, h, _, _ => by simp at h
  | _ :: _, [], h, _, _ => by simp at h
  | x :: xs, y :: ys, h, hx, hy => by
    have hl : xs.length = ys.length := by simpa using h
    have x0 := hx x (by simp)
    have y0 := hy y (by simp)
    obtain ⟨i1, i2, i3⟩ := subB_law xs ys hl (fun z hz => hx z (by simp [hz])) (fun z hz => hy z (by simp [hz]))
    have hb := subB_bit xs ys
    generalize hr : subB xs ys = r at *
    obtain ⟨d, b⟩ := r
    simp only at i1 i2 i3 hb
    have hM : ((256 ^ (x :: xs).length : Nat) : Int) = 256 * ((256 ^ xs.length : Nat) : Int) := by
      rw [List.length_cons, Nat.pow_succ, Int.natCast_mul, Int.mul_comm]; rfl
    by_cases hn : x - y - b < 0
    · rw [subB_neg _ _ _ _ (by rw [hr]; exact hn), hr]
      refine ⟨by simp [i1], ?_, ?_⟩
      · intro z hz
        rcases List.mem_cons.1 hz with rfl | hz
        · simp only; omega
        · exact i2 z hz
      · simp only [val, i1, ← hl, hM]
        generalize hMM : 256 ^ xs.length = M at *
        have e1 : (((x - y - b + 256).toNat * M : Nat) : Int) = (x - y - b + 256) * (M : Int) := by
          rw [Int.natCast_mul, Int.toNat_of_nonneg (by omega)]
        have e2 : ((y.toNat * M : Nat) : Int) = y * (M : Int) := by rw [Int.natCast_mul, Int.toNat_of_nonneg (by omega)]
        have e3 : ((x.toNat * M : Nat) : Int) = x * (M : Int) := by rw [Int.natCast_mul, Int.toNat_of_nonneg (by omega)]
        rw [Int.natCast_add, Int.natCast_add, Int.natCast_add, e1, e2, e3]
        have e4 : (x - y - b + 256) * (M : Int) = x * M - y * M - b * M + 256 * M := by rw [Int.add_mul, Int.sub_mul, Int.sub_mul]
        rw [e4]
        omega
    · rw [subB_pos _ _ _ _ (by rw [hr]; exact hn), hr]
      refine ⟨by simp [i1], ?_, ?_⟩
      · intro z hz
        rcases List.mem_cons.1 hz with rfl | hz
        · simp only; omega
        · exact i2 z hz
      · simp only [val, i1, ← hl, hM]
        generalize hMM : 256 ^ xs.length = M at *
        have e1 : (((x - y - b).toNat * M : Nat) : Int) = (x - y - b) * (M : Int) := by
          rw [Int.natCast_mul, Int.toNat_of_nonneg (by omega)]
        have e2 : ((y.toNat * M : Nat) : Int) = y * (M : Int) := by rw [Int.natCast_mul, Int.toNat_of_nonneg (by omega)]
        have e3 : ((x.toNat * M : Nat) : Int) = x * (M : Int) := by rw [Int.natCast_mul, Int.toNat_of_nonneg (by omega)]
        rw [Int.natCast_add, Int.natCast_add, Int.natCast_add, e1, e2, e3]
        have e4 : (x - y - b) * (M : Int) = x * M - y * M - b * M := by rw [Int.sub_mul, Int.sub_mul]
        rw [e4]
        omega

/-! ### Zero, less or equal -/
def zB : List Int → Bool
  | [] => true
  | x :: xs => if x = 0 then zB xs else false
theorem zB_val : ∀ (xs : List Int), Bytes xs → zB xs = decide (val xs = 0)
  | [], _ => rfl
  | x :: xs, h => by
    have x0 := h x (by simp)
    have ih := zB_val xs (fun z hz => h z (by simp [hz]))
    simp only [zB, val]
    by_cases e : x = 0
    · subst e; rw [if_pos rfl, ih]; simp
    · rw [if_neg e]
      have hp : 0 < 256 ^ xs.length := Nat.pow_pos (by decide)
      have : 0 < x.toNat * 256 ^ xs.length := Nat.mul_pos (by omega) hp
      exact (decide_eq_false (by omega)).symm

def leB : List Int → List Int → Bool
  | x :: xs, y :: ys => if x = y then leB xs ys else decide (x < y)
  | _, _ => true
theorem leB_val : ∀ (xs ys : List Int), xs.length = ys.length → Bytes xs → Bytes ys → leB xs ys = decide (val xs ≤ val ys)
  | [], [], _, _, _ => rfl
  | [], _ :: _, h, _, _ => by simp at h
  | _ :: _, [], h, _, _ => by simp at h
  | x :: xs, y :: ys, h, hx, hy => by
    have hl : xs.length = ys.length := by simpa using h
    have hx' : Bytes xs := fun z hz => hx z (by simp [hz])
    have hy' : Bytes ys := fun z hz => hy z (by simp [hz])
    have ih := leB_val xs ys hl hx' hy'
    have x0 := hx x (by simp)
    have y0 := hy y (by simp)
    have bx := val_lt xs hx'
    have by' := val_lt ys hy'
    rw [← hl] at by'
    simp only [leB, val, ← hl]
    generalize 256 ^ xs.length = M at *
    by_cases e : x = y
    · subst e; rw [if_pos rfl, ih]; simp
    · rw [if_neg e]
      by_cases hlt : x < y
      · have : x.toNat * M + M ≤ y.toNat * M := by
          have : (x.toNat + 1) * M ≤ y.toNat * M := Nat.mul_le_mul_right _ (by omega)
          rw [Nat.add_mul, Nat.one_mul] at this; exact this
        rw [decide_eq_true hlt]; exact (decide_eq_true (by omega)).symm
      · have : y.toNat * M + M ≤ x.toNat * M := by
          have : (y.toNat + 1) * M ≤ x.toNat * M := Nat.mul_le_mul_right _ (by omega)
          rw [Nat.add_mul, Nat.one_mul] at this; exact this
        rw [decide_eq_false hlt]; exact (decide_eq_false (by omega)).symm

/-! ### The distance on the ring -/
theorem dist_law (ks ps ss : List Int) (hk : ks.length = 20) (hp : ps.length = 20) (hs : ss.length = 20) (bk : Bytes ks) (bp : Bytes ps) (bs : Bytes ss) :
    (val (subB ss ps).1 = 0 ↔ val ps = val ss) ∧
    (¬ val ps = val ss → inArc (val ks) (val ps) (val ss) = (!decide (val (subB ks ps).1 = 0) && decide (val (subB ks ps).1 ≤ val (subB ss ps).1))) := by
  obtain ⟨l1, b1, e1⟩ := subB_law ss ps (by omega) bs bp
  obtain ⟨l2, b2, e2⟩ := subB_law ks ps (by omega) bk bp
  have c1 := subB_bit ss ps
  have c2 := subB_bit ks ps
  have v1 := val_lt _ b1
  have v2 := val_lt _ b2
  have vk := val_lt ks bk
  have vp := val_lt ps bp
  have vs := val_lt ss bs
  rw [hs] at e1
  rw [hk] at e2 vk
  rw [l1, hs] at v1
  rw [l2, hk] at v2
  rw [hp] at vp
  rw [hs] at vs
  generalize val (subB ss ps).1 = D at *
  generalize val (subB ks ps).1 = K at *
  generalize (subB ss ps).2 = c at *
  generalize (subB ks ps).2 = c' at *
  generalize val ks = k at *
  generalize val ps = p at *
  generalize val ss = s at *
  clear l1 l2 b1 b2 hk hp hs bk bp bs
  generalize hN : (256 ^ 20 : Nat) = N at *
  have hD : (c = 0 ∧ D + p = s) ∨ (c = 1 ∧ D + p = s + N) := by
    rcases c1 with rfl | rfl
    · left; exact ⟨rfl, by omega⟩
    · right; exact ⟨rfl, by omega⟩
  have hK : (c' = 0 ∧ K + p = k) ∨ (c' = 1 ∧ K + p = k + N) := by
    rcases c2 with rfl | rfl
    · left; exact ⟨rfl, by omega⟩
    · right; exact ⟨rfl, by omega⟩
  clear e1 e2 c1 c2 hN
  constructor
  · omega
  · intro hne
    unfold inArc
    by_cases h1 : p < s
    · rw [if_pos h1]
      by_cases a : p < k <;> by_cases b : k ≤ s
      · rw [decide_eq_true a, decide_eq_true b, decide_eq_false (show ¬ K = 0 by omega), decide_eq_true (show K ≤ D by omega)]; rfl
      · rw [decide_eq_true a, decide_eq_false b, decide_eq_false (show ¬ K ≤ D by omega)]; simp
      · rw [decide_eq_false a, Bool.false_and]
        by_cases h0 : K = 0
        · simp [h0]
        · rw [decide_eq_false h0, decide_eq_false (show ¬ K ≤ D by omega)]; rfl
      · omega
    · have h2 : s < p := by omega
      rw [if_neg h1, if_pos h2]
      by_cases a : p < k <;> by_cases b : k ≤ s
      · omega
      · rw [decide_eq_true a, decide_eq_false (show ¬ K = 0 by omega), decide_eq_true (show K ≤ D by omega)]; rfl
      · rw [decide_eq_true b, decide_eq_false (show ¬ K = 0 by omega), decide_eq_true (show K ≤ D by omega)]; simp
      · rw [decide_eq_false a, decide_eq_false b]
        by_cases h0 : K = 0
        · simp [h0]
        · rw [decide_eq_false h0, decide_eq_false (show ¬ K ≤ D by omega)]; rfl
end Go.Proofs.Qxb6605895a
