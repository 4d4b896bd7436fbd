/-
  The library's sort at uint64: order2Ordered (47), medianOrdered (45), medianAdjacentOrdered (44), choosePivotOrdered (33): SOME place of the part is chosen; the row stays.
-/
import Derived.Test.Qxb6605873aSrt2
import Derived.Deep.Cut
namespace Go.Proofs.Qxb6605873a
open Go.RowKit Go.Sort
set_option linter.unusedSimpArgs false
set_option linter.unusedVariables false

/-- The counter's cell. -/
def Ct (w : World) (s : Nat) : Prop := ∃ z : Int, w.cell? ⟨s, 0, none⟩ = some (.int .i64 z) ∧ w.frozen? ⟨s, 0, none⟩ = false

theorem RowU.aside {w0 w w' : World} {g o n s : Nat} {d : Array Int} (h : RowU w0 g o n w d) (hg : w.grownBy w' (some s)) (hne : s ≠ g) : RowU w' g o n w' d := by
  have hb : ∀ t, t < n → w'.heap[g]? = w.heap[g]? := fun t ht => hg.block g (World.block_lt_of_cell? w _ (h.cell t ht)) (by simpa using fun e => hne e.symm)
  exact ⟨h.size, fun t ht => (World.cell?_of_block (by exact hb t ht)).trans (h.cell t ht), fun t ht => (World.frozen?_of_block (by exact hb t ht)).trans (h.fz t ht), ⟨rfl, rfl, rfl, Nat.le_refl _, fun _ _ _ => rfl⟩⟩

theorem Ct.set {w : World} {s : Nat} (h : Ct w s) (q : Nat) (z : Int) : Ct ((w.drewN q).setCell ⟨s, 0, none⟩ (.int .i64 z)) s := by
  obtain ⟨y, h1, h2⟩ := h
  exact ⟨z, World.cell?_setCell_same' _ _ _ (by show (w.cell? _).isSome = true; rw [h1]; rfl), by rw [World.frozen?_setCell]; exact h2⟩
theorem Ct.drewN {w : World} {s : Nat} (h : Ct w s) (q : Nat) : Ct (w.drewN q) s := h
theorem grown_set (w : World) (s q : Nat) (v : Value) : w.grownBy ((w.drewN q).setCell ⟨s, 0, none⟩ v) (some s) :=
  ⟨rfl, rfl, rfl, by simp [World.setCell], fun k hk hne => by rw [Below.heap_setCell _ _ _ _ (by simpa using hne)]; rfl⟩
theorem grown_drewN (w : World) (s : Option Nat) (q : Nat) : w.grownBy (w.drewN q) s := ⟨rfl, rfl, rfl, Nat.le_refl _, fun _ _ _ => rfl⟩
theorem grown_trans {a b c : World} {row : Option Nat} (h : a.grownBy b row) (k : b.grownBy c row) : a.grownBy c row :=
  ⟨k.os.trans h.os, k.tape.trans h.tape, k.output.trans h.output, Nat.le_trans h.size k.size, fun i hi hne => (k.block i (Nat.lt_of_lt_of_le hi h.size) hne).trans (h.block i hi hne)⟩

set_option maxHeartbeats 1000000 in
theorem order2_u (g o n cap a b s : Nat) (d : Array Int) (w : World) (h : RowU w g o n w d) (hs : Ct w s) (ha : a < n) (hb : b < n) (hn : n ≤ 1048576) :
    Calls Try.prog 47 #[.slice (some ⟨g, o, none⟩) n cap, .int .i64 a, .int .i64 b, .pointer (some ⟨s, 0, none⟩)] w fun e w' => ∃ x y : Nat, e = .returned (.tuple #[.int .i64 x, .int .i64 y]) ∧ ((x = a ∧ y = b) ∨ (x = b ∧ y = a)) ∧ Ct w' s ∧ w.grownBy w' (some s) := by
  obtain ⟨G, hG⟩ : ∃ G : Nat → Int, ∀ t, G t = d[t]! := ⟨fun t => d[t]!, fun _ => rfl⟩
  have hcw : ∀ t, t < n → w.cell? ⟨g, o + t, none⟩ = some (.int .u64 (G t)) := fun t ht => by rw [hG]; exact h.cell t ht
  have HC := hidU hs
  clear hG h hs
  go_enter Try.func47, Try.ntmps47
  go_wp2_with fail
  go_big_quiet (first | (go_at_call 36; refine Calls.quiet_of_same (less_u _ _ _)))
  obtain ⟨z, z1, z2⟩ := HC.out
  have z1' : (w.drewN nq).cell? ⟨s, 0, none⟩ = some (.int .i64 z) := z1
  have z2' : (w.drewN nq).frozen? ⟨s, 0, none⟩ = false := z2
  clear z1 z2
  go_wp2_with fail
  · go_ret2
    exact ⟨b, a, rfl, Or.inr ⟨rfl, rfl⟩, HC.out.set _ _, grown_set _ _ _ _⟩
  · go_ret2
    exact ⟨a, b, rfl, Or.inl ⟨rfl, rfl⟩, HC.out.drewN _, grown_drewN _ _ _⟩

set_option maxHeartbeats 1000000 in
theorem median_u (g o n cap a b c lo hi s : Nat) (d : Array Int) (w : World) (h : RowU w g o n w d) (hs : Ct w s) (hne : s ≠ g) (ha : lo ≤ a ∧ a < hi) (hb : lo ≤ b ∧ b < hi) (hc : lo ≤ c ∧ c < hi) (hh : hi ≤ n) (hn : n ≤ 1048576) :
    Calls Try.prog 45 #[.slice (some ⟨g, o, none⟩) n cap, .int .i64 a, .int .i64 b, .int .i64 c, .pointer (some ⟨s, 0, none⟩)] w fun e w' => ∃ m : Nat, e = .returned (.int .i64 m) ∧ lo ≤ m ∧ m < hi ∧ Ct w' s ∧ w.grownBy w' (some s) := by
  have HR := hidU h
  have HC := hidU hs
  clear h hs
  go_enter Try.func45, Try.ntmps45
  go_wp2_with fail
  refine (order2_u g o n cap a b s d w HR.out HC.out (by omega) (by omega) hn).mono ?_
  rintro e w1 ⟨x1, y1, rfl, hxy, hc1, hg1⟩
  replace HR := hidU (HR.out.aside hg1 hne)
  replace HC := hidU hc1
  have HG := hidU hg1
  have b1 : lo ≤ x1 ∧ x1 < hi := by omega
  have b2 : lo ≤ y1 ∧ y1 < hi := by omega
  clear hxy hc1 hg1
  go_wp2_with fail
  refine (order2_u g o n cap y1 c s d w1 HR.out HC.out (by omega) (by omega) hn).mono ?_
  rintro e w2 ⟨x2, y2, rfl, hxy, hc1, hg1⟩
  replace HR := hidU (HR.out.aside hg1 hne)
  replace HC := hidU hc1
  replace HG := hidU (grown_trans HG.out hg1)
  have b3 : lo ≤ x2 ∧ x2 < hi := by omega
  clear hxy hc1 hg1
  go_wp2_with fail
  refine (order2_u g o n cap x1 x2 s d w2 HR.out HC.out (by omega) (by omega) hn).mono ?_
  rintro e w3 ⟨x3, y3, rfl, hxy, hc1, hg1⟩
  replace HC := hidU hc1
  replace HG := hidU (grown_trans HG.out hg1)
  have b4 : lo ≤ y3 ∧ y3 < hi := by omega
  clear hxy hc1 hg1
  go_wp2_with fail
  go_ret
  exact ⟨y3, rfl, b4.1, b4.2, HC.out, HG.out⟩

set_option maxHeartbeats 1000000 in
theorem adjacent_u (g o n cap a lo hi s : Nat) (d : Array Int) (w : World) (h : RowU w g o n w d) (hs : Ct w s) (hne : s ≠ g) (ha : lo < a ∧ a + 1 < hi) (hh : hi ≤ n) (hn : n ≤ 1048576) :
    Calls Try.prog 44 #[.slice (some ⟨g, o, none⟩) n cap, .int .i64 a, .pointer (some ⟨s, 0, none⟩)] w fun e w' => ∃ m : Nat, e = .returned (.int .i64 m) ∧ lo ≤ m ∧ m < hi ∧ Ct w' s ∧ w.grownBy w' (some s) := by
  have HR := hidU h
  have HC := hidU hs
  clear h hs
  go_enter Try.func44, Try.ntmps44
  go_wp2_with fail
  rw [show (a : Int) - 1 = ((a - 1 : Nat) : Int) from by omega, show (a : Int) + 1 = ((a + 1 : Nat) : Int) from by omega]
  refine (median_u g o n cap (a - 1) a (a + 1) lo hi s d w HR.out HC.out hne (by omega) (by omega) (by omega) hh hn).mono ?_
  rintro e w1 ⟨m, rfl, h1, h2, hc1, hg1⟩
  go_wp2_with fail
  go_ret
  exact ⟨m, rfl, h1, h2, hc1, hg1⟩

theorem ct_new (w : World) : Ct (w.alloc (.cells #[.int .i64 0] 3)) w.heap.size :=
  ⟨0, by rw [cell_of_row _ _ _ _ _ _ (heap_alloc_new _ _)]; rfl, by simp only [World.frozen?, heap_alloc_new]; rfl⟩
/-- Behind the counter's making: the row is as it was. -/
theorem RowU.back {w w' : World} {g o n : Nat} {d : Array Int} {x : Obj} (h : RowU w g o n w d) (h' : RowU w' g o n w' d) (hg : (w.alloc x).grownBy w' (some w.heap.size)) : RowU w g o n w' d :=
  ⟨h.size, h'.cell, h'.fz, ⟨hg.os, hg.tape, hg.output, by have := hg.size; simp at this; omega, fun k hk _ => by rw [hg.block k (by simp; omega) (by simp; omega)]; exact heap_alloc_old w x hk⟩⟩

set_option maxHeartbeats 4000000 in
set_option maxRecDepth 100000 in
theorem choose_u (g o n cap a b : Nat) (d : Array Int) (w : World) (h : RowU w g o n w d) (hab : a < b) (hb : b ≤ n) (hn : n ≤ 1048576) :
    Calls Try.prog 33 #[.slice (some ⟨g, o, none⟩) n cap, .int .i64 a, .int .i64 b] w fun e w' => ∃ (p : Nat) (hint : Int), e = .returned (.tuple #[.int .i64 p, .int .i64 hint]) ∧ (hint = 0 ∨ hint = 1 ∨ hint = 2) ∧ a ≤ p ∧ p < b ∧ RowU w g o n w' d := by
  obtain ⟨l, hl⟩ : ∃ l, l = b - a := ⟨_, rfl⟩
  obtain ⟨q, hq⟩ : ∃ q, q = l / 4 := ⟨_, rfl⟩
  have hsub : (b : Int) - (a : Int) = (l : Int) := by omega
  have hdiv : (l : Int).tdiv 4 = (q : Int) := by rw [Int.tdiv_eq_ediv_of_nonneg (by omega)]; omega
  have hgs : g < w.heap.size := World.block_lt_of_cell? w _ (h.cell a (by omega))
  have hne : w.heap.size ≠ g := by omega
  have h0 : RowU (w.alloc (.cells #[.int .i64 0] 3)) g o n (w.alloc (.cells #[.int .i64 0] 3)) d := h.aside (s := w.heap.size) (World.grownBy_alloc _ _ _) hne
  have HR := hidU h0
  have HC := hidU (ct_new w)
  have HW := hidU h
  have HB := hidU (show ∀ w', (w.alloc (.cells #[.int .i64 0] 3)).grownBy w' (some w.heap.size) → RowU w' g o n w' d → RowU w g o n w' d from fun w' hg h' => h.back h' hg)
  have HG := hidU (show (w.alloc (.cells #[.int .i64 0] 3)).grownBy (w.alloc (.cells #[.int .i64 0] 3)) (some w.heap.size) from ⟨rfl, rfl, rfl, Nat.le_refl _, fun _ _ _ => rfl⟩)
  obtain ⟨i1, e1⟩ : ∃ i1, i1 = a + q := ⟨_, rfl⟩
  obtain ⟨i2, e2⟩ : ∃ i2, i2 = a + q * 2 := ⟨_, rfl⟩
  obtain ⟨i3, e3⟩ : ∃ i3, i3 = a + q * 3 := ⟨_, rfl⟩
  have z1 : (a : Int) + (q : Int) = (i1 : Int) := by omega
  have z2 : (a : Int) + (q : Int) * 2 = (i2 : Int) := by omega
  have z3 : (a : Int) + (q : Int) * 3 = (i3 : Int) := by omega
  have f1 : 8 ≤ l → a < i1 ∧ i1 + 1 < b ∧ a < i2 ∧ i2 + 1 < b ∧ a < i3 ∧ i3 + 1 < b := by omega
  have f3 : a ≤ i2 ∧ i2 < b := by omega
  have q1 : q ≤ 1048576 := by omega
  clear h h0 hl hq e1 e2 e3 HW
  go_enter Try.func33, Try.ntmps33
  go_upto_region 3 with fail
  generalize w.alloc (.cells #[.int .i64 0] 3) = W at *
  generalize w.heap.size = s at *
  by_cases h8 : 8 ≤ l
  · obtain ⟨b1, b2, b3, b4, b5, b6⟩ := f1 h8
    by_cases h50 : 50 ≤ l
    · go_wp2_with fail
      refine (adjacent_u g o n cap i1 a b s d W HR.out HC.out hne ⟨b1, b2⟩ hb hn).mono ?_
      rintro e w1 ⟨m1, rfl, c1, c2, hc, hg⟩
      replace HR := hidU (HR.out.aside hg hne)
      replace HC := hidU hc
      replace HG := hidU (grown_trans HG.out hg)
      clear hc hg
      go_wp2_with fail
      refine (adjacent_u g o n cap i2 a b s d w1 HR.out HC.out hne ⟨b3, b4⟩ hb hn).mono ?_
      rintro e w2 ⟨m2, rfl, c3, c4, hc, hg⟩
      replace HR := hidU (HR.out.aside hg hne)
      replace HC := hidU hc
      replace HG := hidU (grown_trans HG.out hg)
      clear hc hg
      go_wp2_with fail
      refine (adjacent_u g o n cap i3 a b s d w2 HR.out HC.out hne ⟨b5, b6⟩ hb hn).mono ?_
      rintro e w3 ⟨m3, rfl, c5, c6, hc, hg⟩
      replace HR := hidU (HR.out.aside hg hne)
      replace HC := hidU hc
      replace HG := hidU (grown_trans HG.out hg)
      clear hc hg
      go_wp2_with fail
      refine (median_u g o n cap m1 m2 m3 a b s d w3 HR.out HC.out hne ⟨c1, c2⟩ ⟨c3, c4⟩ ⟨c5, c6⟩ hb hn).mono ?_
      rintro e w4 ⟨m4, rfl, c7, c8, hc, hg⟩
      replace HR := hidU (HR.out.aside hg hne)
      replace HG := hidU (grown_trans HG.out hg)
      obtain ⟨z, y1, y2⟩ := hc
      clear hg
      go_wp2_with fail
      all_goals
        go_ret2
        exact ⟨m4, _, rfl, by decide, c7, c8, HB.out _ HG.out HR.out⟩
    · go_wp2_with fail
      refine (median_u g o n cap i1 i2 i3 a b s d W HR.out HC.out hne (by omega) (by omega) (by omega) hb hn).mono ?_
      rintro e w4 ⟨m4, rfl, c7, c8, hc, hg⟩
      replace HR := hidU (HR.out.aside hg hne)
      replace HG := hidU (grown_trans HG.out hg)
      obtain ⟨z, y1, y2⟩ := hc
      clear hg
      go_wp2_with fail
      all_goals
        go_ret2
        exact ⟨m4, _, rfl, by decide, c7, c8, HB.out _ HG.out HR.out⟩
  · obtain ⟨z, y1, y2⟩ := HC.out
    go_wp2_with fail
    all_goals
      go_ret2
      exact ⟨i2, _, rfl, by decide, f3.1, f3.2, HB.out _ HG.out HR.out⟩
end Go.Proofs.Qxb6605873a
