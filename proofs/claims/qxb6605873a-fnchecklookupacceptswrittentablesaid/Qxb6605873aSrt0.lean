/-
  The library's sort at uint64: a row of numbers in a block of its own; cmp.isNaN (46), cmp.Less (36); insertionSortOrdered (30).
-/
import Derived.Test.Qxb6605873aProg
import Derived.Sort.WalkA
import Derived.WalkKit
import Derived.BigGuard
import Derived.BigCall
import Derived.CellFam
import Derived.Deep.Draws
import Derived.Deep.QuietTactic
import Derived.BigQuiet
import Derived.Deep.OwnRows
namespace Go.Proofs.Qxb6605873a
open Go.RowKit Go.Sort
set_option linter.unusedSimpArgs false
set_option linter.unusedVariables false

theorem hidU {p : Prop} (h : p) : Hid p := h

/-- FROM PLACE o ON, BLOCK g HOLDS THE n NUMBERS d; of what was there in w0 nothing else than that block has turned. -/
structure RowU (w0 : World) (g o n : Nat) (w : World) (d : Array Int) : Prop where
  size : d.size = n
  cell : ∀ t, t < n → w.cell? ⟨g, o + t, none⟩ = some (.int .u64 d[t]!)
  fz : ∀ t, t < n → w.frozen? ⟨g, o + t, none⟩ = false
  grown : w0.grownBy w (some g)

section
variable {w0 w w1 : World} {g o n : Nat} {d d1 : Array Int}
theorem RowU.drewN (h : RowU w0 g o n w d) (q : Nat) : RowU w0 g o n (w.drewN q) d := ⟨h.size, h.cell, h.fz, ⟨h.grown.os, h.grown.tape, h.grown.output, h.grown.size, h.grown.block⟩⟩
theorem RowU.start (h : RowU w0 g o n w d) : RowU w g o n w d := ⟨h.size, h.cell, h.fz, ⟨rfl, rfl, rfl, Nat.le_refl _, fun _ _ _ => rfl⟩⟩
theorem RowU.trans (h : RowU w0 g o n w d) (k : RowU w g o n w1 d1) : RowU w0 g o n w1 d1 :=
  ⟨k.size, k.cell, k.fz, ⟨k.grown.os.trans h.grown.os, k.grown.tape.trans h.grown.tape, k.grown.output.trans h.grown.output, Nat.le_trans h.grown.size k.grown.size, fun i hi hne => (k.grown.block i (Nat.lt_of_lt_of_le hi h.grown.size) hne).trans (h.grown.block i hi hne)⟩⟩
theorem RowU.set (h : RowU w0 g o n w d) (i : Nat) (hi : i < n) (z : Int) : RowU w0 g o n (w.setCell ⟨g, o + i, none⟩ (.int .u64 z)) (d.setIfInBounds i z) := by
  have hs := h.size
  refine ⟨by simp [h.size], fun t ht => ?_, fun t ht => by rw [World.frozen?_setCell]; exact h.fz t ht, ⟨h.grown.os, h.grown.tape, h.grown.output, by have := h.grown.size; simp [World.setCell]; exact this, fun k hk hne => by
    rw [Below.heap_setCell _ _ _ _ (by simpa using hne)]; exact h.grown.block k hk hne⟩⟩
  by_cases e : i = t
  · subst e
    rw [World.cell?_setCell_same' w _ _ (by rw [h.cell i hi]; rfl), getElem!_set_same d i z (by omega)]
  · rw [World.cell?_setCell_other _ _ _ _ (fun h => e (by injection h; omega)), h.cell t ht]
    rw [getElem!_pos d t (by omega), getElem!_pos (d.setIfInBounds i z) t (by simp; omega), Array.getElem_setIfInBounds (by omega), if_neg e]
theorem RowU.swap (h : RowU w0 g o n w d) (q i j : Nat) (hi : i < n) (hj : j < n) : RowU w0 g o n (((w.drewN q).setCell ⟨g, o + i, none⟩ (.int .u64 d[j]!)).setCell ⟨g, o + j, none⟩ (.int .u64 d[i]!)) (swp d i j) :=
  ((h.drewN q).set i hi _).set j hj _
theorem RowU.swapD (h : RowU w0 g o n w d) (i j : Nat) (hi : i < n) (hj : j < n) : RowU w0 g o n ((w.setCell ⟨g, o + i, none⟩ (.int .u64 d[j]!)).setCell ⟨g, o + j, none⟩ (.int .u64 d[i]!)).drew (swp d i j) :=
  ((h.set i hi _).set j hj _).drewN 1
theorem RowU.lt (h : RowU w0 g o n w d) (hn : 0 < n) : g < w.heap.size := World.block_lt_of_cell? w _ (h.cell 0 hn)
end

theorem isNaN_u (x : Int) (w : World) : Calls Try.prog 46 #[.int .u64 x] w fun e w' => e = .returned (.bool false) ∧ w' = w := by
  go_enter Try.func46, Try.ntmps46
  go_wp2
  go_ret
  exact ⟨by simp, rfl⟩

theorem less_u (x y : Int) (w : World) : Calls Try.prog 36 #[.int .u64 x, .int .u64 y] w fun e w' => e = .returned (.bool (ltInt x y)) ∧ w' = w := by
  go_enter Try.func36, Try.ntmps36
  go_wp2_with (go_at_call 46; refine (isNaN_u _ _).mono ?_; rintro e w' ⟨rfl, rfl⟩)
  go_ret
  exact ⟨rfl, rfl⟩

set_option maxHeartbeats 1000000 in
/-- insertionSortOrdered: exactly what the plain function makes of the row. -/
theorem insertion_u (g o n cap a b : Nat) (d : Array Int) (w : World) (h : RowU w g o n w d) (hab : a ≤ b) (hb : b ≤ n) (hn : n ≤ 1048576) :
    Calls Try.prog 30 #[.slice (some ⟨g, o, none⟩) n cap, .int .i64 a, .int .i64 b] w fun e w' => e = .returned (.tuple #[]) ∧ RowU w g o n w' (Sort.insertionSort ltInt d a b) := by
  have H0 := hidU h
  clear h
  go_enter Try.func30, Try.ntmps30
  go_wp2_with fail
  go_loopw [6] (fun vi wr => ∃ (i : Nat) (dk : Array Int), vi = .int .i64 i ∧ a < i ∧ i ≤ b + 1 ∧ Hid (RowU w g o n wr dk) ∧ Hid (insOuter ltInt a b i dk = Sort.insertionSort ltInt d a b)) (fun vi _ => b + 1 - (intOf vi).toNat)
  case atStart => exact ⟨a + 1, d, by go_num, by omega, by omega, H0, rfl⟩
  case round =>
    obtain ⟨i, dk, rfl, hai, hib, HR, HO⟩ := hrel
    by_cases hlt : i < b
    · go_wp2_with fail
      go_loopw [7] (fun vj wr2 => ∃ (j : Nat) (dj : Array Int), vj = .int .i64 j ∧ a ≤ j ∧ j ≤ i ∧ Hid (RowU w g o n wr2 dj) ∧ Hid (insInner ltInt a j dj = insInner ltInt a i dk)) (fun vj _ => (intOf vj).toNat)
      case atStart => exact ⟨i, dk, rfl, by omega, Nat.le_refl _, HR, rfl⟩
      case round =>
        obtain ⟨j, dj, rfl, haj, hji, HJ, HI⟩ := hrel
        obtain ⟨G, hG⟩ : ∃ G : Nat → Int, ∀ t, G t = dj[t]! := ⟨fun t => dj[t]!, fun _ => rfl⟩
        have hcw : ∀ t, t < n → wr.cell? ⟨g, o + t, none⟩ = some (.int .u64 (G t)) := fun t ht => by rw [hG]; exact HJ.out.cell t ht
        have hfw : ∀ t, t < n → wr.frozen? ⟨g, o + t, none⟩ = false := HJ.out.fz
        have HG := hidU hG
        clear hG
        have OUT : Hid ((j ≤ a ∨ ltInt dj[j]! dj[j - 1]! = false) → insOuter ltInt a b (i + 1) dj = Sort.insertionSort ltInt d a b) := fun hs => by
          rw [← HO.out, insOuter_go _ _ _ _ _ hlt, ← HI.out, insInner_stop _ _ _ _ hs]
        go_wp2_with fail
        by_cases hja : a < j
        · have j1 : j < n := by omega
          have j2 : j - 1 < n := by omega
          cases hl : ltInt (G j) (G (j - 1))
          · go_quiet (first | (go_at_call 36; refine Calls.quiet_of_same (less_u _ _ _)))
            go_wp2_with fail
            go_roundw
            case rel => exact ⟨i + 1, dj, by go_num, by omega, by omega, HJ.out.drewN _, OUT.out (Or.inr (by rw [← HG.out, ← HG.out]; exact hl))⟩
            case measure => simp [intOf]; omega
          · go_quiet (first | (go_at_call 36; refine Calls.quiet_of_same (less_u _ _ _)))
            go_wp2_with fail
            go_region
            all_goals go_wp2_with fail
            go_roundw
            case rel =>
              refine ⟨j - 1, swp dj j (j - 1), by congr 1; omega, by omega, by omega, ?_, ?_⟩
              · rw [HG.out, HG.out]; exact HJ.out.swap _ j (j - 1) j1 j2
              · show _ = _
                rw [← HI.out, insInner_go ltInt a j dj hja (by rw [← HG.out, ← HG.out]; exact hl)]
            case measure => simp [intOf]; omega
        · go_quiet (first | (go_at_call 36; refine Calls.quiet_of_same (less_u _ _ _)))
          go_wp2_with fail
          go_roundw
          case rel => exact ⟨i + 1, dj, by go_num, by omega, by omega, HJ.out.drewN _, OUT.out (Or.inl (by omega))⟩
          case measure => simp [intOf]; omega
    · go_wp2_with fail
      go_end0
      exact ⟨rfl, by rw [← HO.out, insOuter_stop _ _ _ _ _ hlt]; exact HR.out⟩
end Go.Proofs.Qxb6605873a
