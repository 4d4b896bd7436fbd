/-
  The library's sort at uint64: heapSortOrdered (31).
-/
import Derived.Test.Qxb6605873aSrt1
namespace Go.Proofs.Qxb6605873a
open Go.RowKit Go.Sort
set_option linter.unusedSimpArgs false
set_option linter.unusedVariables false

theorem halfOf (m : Nat) : ((m : Int) - 1).tdiv 2 = (((m - 1) / 2 + 1 : Nat) : Int) - 1 := by
  by_cases h : m = 0
  · subst h; decide
  · rw [Int.tdiv_eq_ediv_of_nonneg (by omega)]; omega

set_option maxHeartbeats 4000000 in
set_option maxRecDepth 100000 in
theorem heap_u (g o n cap a b : Nat) (d : Array Int) (w : World) (h : RowU w g o n w d) (hab : a ≤ b) (hb : b ≤ n) (hn : n ≤ 1048576) :
    Calls Try.prog 31 #[.slice (some ⟨g, o, none⟩) n cap, .int .i64 a, .int .i64 b] w fun e w' => e = .returned (.tuple #[]) ∧ RowU w g o n w' (Sort.heapSort ltInt d a b) := by
  obtain ⟨m, hm⟩ : ∃ m, b = a + m := ⟨b - a, by omega⟩
  have hsub : (b : Int) - (a : Int) = (m : Int) := by omega
  have hhalf := halfOf m
  have hse : Sort.heapSort ltInt d a b = heapPop ltInt a m (heapBuild ltInt m a ((m - 1) / 2 + 1) d) := by rw [Sort.heapSort, show b - a = m by omega]
  rw [hse]
  obtain ⟨K, hK⟩ : ∃ K, K = (m - 1) / 2 + 1 := ⟨_, rfl⟩
  rw [← hK] at hhalf ⊢
  have hKm : K ≤ m + 1 := by omega
  have hmn : a + m ≤ n := by omega
  have hK1 : ∀ k, k + 1 ≤ K → k ≤ m := fun k hk => by omega
  clear hse hm hK
  have H0 := hidU h
  clear h
  go_enter Try.func31, Try.ntmps31
  go_wp2_with fail
  go_loopw [9] (fun vi wr => ∃ (k : Nat) (z : Int) (dk : Array Int), vi = .int .i64 z ∧ z = (k : Int) - 1 ∧ k ≤ K ∧ Hid (RowU w g o n wr dk) ∧ Hid (heapBuild ltInt m a k dk = heapBuild ltInt m a K d)) (fun vi _ => (intOf vi + 1).toNat)
  case atStart => exact ⟨K, _, d, rfl, rfl, Nat.le_refl _, H0, rfl⟩
  case round =>
    obtain ⟨k, z, dk, rfl, hz, hk, HR, HB⟩ := hrel
    cases k with
    | zero =>
      obtain rfl : z = -1 := by omega
      clear hz
      go_wp2_with fail
      go_loopw [10] (fun vi wr2 => ∃ (k : Nat) (z : Int) (dj : Array Int), vi = .int .i64 z ∧ z = (k : Int) - 1 ∧ k ≤ m ∧ Hid (RowU w g o n wr2 dj) ∧ Hid (heapPop ltInt a k dj = heapPop ltInt a m (heapBuild ltInt m a K d))) (fun vi _ => (intOf vi + 1).toNat)
      case atStart => exact ⟨m, _, dk, rfl, rfl, Nat.le_refl _, HR, by show _ = _; rw [← HB.out]; rfl⟩
      case round =>
        obtain ⟨k, z, dj, rfl, hz, hk2, HJ, HP⟩ := hrel
        cases k with
        | zero =>
          obtain rfl : z = -1 := by omega
          clear hz
          go_wp2_with fail
          go_end0
          exact ⟨rfl, by rw [← HP.out]; exact HJ.out⟩
        | succ k =>
          obtain rfl : z = (k : Int) := by omega
          clear hz
          obtain ⟨G, hG⟩ : ∃ G : Nat → Int, ∀ t, G t = dj[t]! := ⟨fun t => dj[t]!, fun _ => rfl⟩
          have hcw : ∀ t, t < n → wr.cell? ⟨g, o + t, none⟩ = some (.int .u64 (G t)) := fun t ht => by rw [hG]; exact HJ.out.cell t ht
          have hfw : ∀ t, t < n → wr.frozen? ⟨g, o + t, none⟩ = false := HJ.out.fz
          have HG := hidU hG
          clear hG
          have i1 : a + k < n := by omega
          have i0 : a < n := by omega
          rcases Nat.eq_zero_or_pos k with rfl | hkp
          · go_wp2_with fail
            go_region
            all_goals go_wp2_with fail
            have HJ2 := hidU (HJ.out.swapD a (a + 0) i0 i1)
            rw [← HG.out, ← HG.out] at HJ2
            generalize World.drew _ = wr2 at *
            refine (sift_u g o n cap 0 0 a _ wr2 HJ2.out.start (by omega) (by omega) hn).mono ?_
            rintro e wr3 ⟨rfl, h3⟩
            have HJ3 := hidU (HJ2.out.trans h3)
            clear h3
            go_wp2_with fail
            go_roundw
            case rel => exact ⟨0, _, _, rfl, by simp, by omega, HJ3, HP⟩
            case measure => simp [intOf]
          · go_wp2_with fail
            go_region
            all_goals go_wp2_with fail
            have HJ2 := hidU (HJ.out.swapD a (a + k) i0 i1)
            rw [← HG.out, ← HG.out] at HJ2
            generalize World.drew _ = wr2 at *
            refine (sift_u g o n cap 0 k a _ wr2 HJ2.out.start (by omega) (by omega) hn).mono ?_
            rintro e wr3 ⟨rfl, h3⟩
            have HJ3 := hidU (HJ2.out.trans h3)
            clear h3
            go_wp2_with fail
            go_roundw
            case rel => exact ⟨k, _, _, rfl, by simp, by omega, HJ3, HP⟩
            case measure => simp [intOf]
    | succ k =>
      obtain rfl : z = (k : Int) := by omega
      clear hz
      have hk1 := hK1 k hk
      go_wp2_with fail
      refine (sift_u g o n cap k m a dk wr HR.out.start hk1 (by omega) hn).mono ?_
      rintro e wr2 ⟨rfl, h2⟩
      have HR2 := hidU (HR.out.trans h2)
      clear h2
      go_wp2_with fail
      go_roundw
      case rel => exact ⟨k, _, _, rfl, by simp, by omega, HR2, HB⟩
      case measure => simp [intOf]
end Go.Proofs.Qxb6605873a
