/-
  Twenty bytes compared by '=='; what the arcs of a node and its predecessor are to one another.
-/
import Derived.Test.Qxb6605895aByt
import Derived.Test.Qxb6605895aArrEq
namespace Go.Proofs.Qxb6605895a
open Go.RowKit

theorem val_inj : ∀ (xs ys : List Int), xs.length = ys.length → Bytes xs → Bytes ys → val xs = val ys → xs = ys
  | [], [], _, _, _, _ => rfl
  | [], _ :: _, h, _, _, _ => by simp at h
  | _ :: _, [], h, _, _, _ => by simp at h
  | x :: xs, y :: ys, h, hx, hy, hv => by
    have hl : xs.length = ys.length := by simpa using h
    have hx' : Bytes xs := fun z hz => hx z (by simp [hz])
    have hy' : Bytes ys := fun z hz => hy z (by simp [hz])
    have x0 := hx x (by simp)
    have y0 := hy y (by simp)
    have bx := val_lt xs hx'
    have by' := val_lt ys hy'
    simp only [val] at hv
    rw [← hl] at by' hv
    have hd : x.toNat = y.toNat := by
      have e1 : (x.toNat * 256 ^ xs.length + val xs) / 256 ^ xs.length = x.toNat := by
        rw [Nat.mul_comm, Nat.mul_add_div (Nat.pow_pos (by decide)), Nat.div_eq_of_lt bx, Nat.add_zero]
      have e2 : (y.toNat * 256 ^ xs.length + val ys) / 256 ^ xs.length = y.toNat := by
        rw [Nat.mul_comm, Nat.mul_add_div (Nat.pow_pos (by decide)), Nat.div_eq_of_lt by', Nat.add_zero]
      rw [← e1, ← e2, hv]
    have hv' : val xs = val ys := by rw [hd] at hv; omega
    rw [val_inj xs ys hl hx' hy' hv', show x = y by omega]

theorem all_eq (n : Nat) (ps ss : List Int) (hp : ps.length = n) (hs : ss.length = n) (bp : Bytes ps) (bs : Bytes ss) : (List.range n).all (fun j => ps[j]?.getD 0 == ss[j]?.getD 0) = decide (val ps = val ss) := by
  by_cases e : val ps = val ss
  · have := val_inj ps ss (by omega) bp bs e
    subst this
    simp
  · rw [decide_eq_false e, Bool.eq_false_iff]
    intro hall
    rw [List.all_eq_true] at hall
    apply e
    have : ps = ss := by
      apply List.ext_getElem (by omega)
      intro j h1 h2
      have := hall j (List.mem_range.2 (by omega))
      rw [List.getElem?_eq_getElem h1, List.getElem?_eq_getElem h2] at this
      simpa using this
    rw [this]

theorem Try.eqId (ps ss : List Int) (hp : ps.length = 20) (hs : ss.length = 20) (bp : Bytes ps) (bs : Bytes ss) (w : World) :
    (Op.equalIn 10000 26 (.agg (idA ps)) (.agg (idA ss))).run Try.prog w = .ok (decide (val ps = val ss)) w := by
  obtain ⟨i, hi, _⟩ := Option.map_eq_some_iff.1 (show (Try.prog.info? 5).map (·.size) = some 1 by kernel_rfl)
  have h := run_equalIn_row (P := Try.prog) w 9999 Try.underlying26 hi (by kernel_rfl) (by kernel_rfl) (idA ps) (idA ss) (fun j => .int .u8 (ps[j]?.getD 0)) (fun j => .int .u8 (ss[j]?.getD 0)) (fun j => ps[j]?.getD 0 == ss[j]?.getD 0)
    (fun j hj => ⟨idA_get ps j (by omega), idA_get ss j (by omega), by rw [run_equalIn_int w 9998 5 .u8 .u8 _ _ Try.underlying5]⟩)
  rw [all_eq 20 ps ss hp hs bp bs] at h
  exact h

/-! ### The arcs -/
theorem arc_eq (k p s : Nat) (h : p = s) : inArc k p s = true := by unfold inArc; rw [if_neg (by omega), if_neg (by omega)]
theorem arc_ne (k p s : Nat) (h : ¬ p = s) : (inArc k p s != inArc k s p) = true ∧ inArc s p s = true ∧ inArc p p s = false := by
  unfold inArc
  by_cases h1 : p < s
  · rw [if_pos h1, if_pos h1, if_pos h1, if_neg (show ¬ s < p by omega), if_pos h1]
    refine ⟨?_, by simp [h1], by simp⟩
    by_cases a : p < k <;> by_cases b : k ≤ s
    · have c : ¬ s < k := by omega
      have d : ¬ k ≤ p := by omega
      simp [a, b, c, d]
    · have c : s < k := by omega
      simp [a, b, c]
    · have d : k ≤ p := by omega
      simp [a, b, d]
    · omega
  · have h2 : s < p := by omega
    rw [if_neg h1, if_pos h2, if_pos h2, if_neg h1, if_pos h2, if_neg h1, if_pos h2]
    refine ⟨?_, by simp, by simp; omega⟩
    by_cases a : p < k <;> by_cases b : k ≤ s
    · omega
    · have d : ¬ k ≤ p := by omega
      simp [a, b, d]
    · have c : ¬ s < k := by omega
      simp [a, b, c]
    · have c : s < k := by omega
      have d : k ≤ p := by omega
      simp [a, b, c, d]
end Go.Proofs.Qxb6605895a
