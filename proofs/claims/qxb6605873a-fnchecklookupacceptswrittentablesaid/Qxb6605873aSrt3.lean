/-
  The library's sort at uint64: partialInsertionSortOrdered (35).
-/
import Derived.Test.Qxb6605873aSrt2
import Derived.Sort.WalkA6
import Derived.Deep.Cut
namespace Go.Proofs.Qxb6605873a
open Go.RowKit Go.Sort
set_option linter.unusedSimpArgs false
set_option linter.unusedVariables false

set_option maxHeartbeats 8000000 in
set_option maxRecDepth 100000 in
/-- partialInsertionSortOrdered: exactly what the plain function makes of the row. -/
theorem pins_u (g o n cap a b : Nat) (d : Array Int) (w : World) (h : RowU w g o n w d) (hab : a < b) (hb : b ≤ n) (hn : n ≤ 1048576) :
    Calls Try.prog 35 #[.slice (some ⟨g, o, none⟩) n cap, .int .i64 a, .int .i64 b] w fun e w' => e = .returned (.bool (Sort.partialInsertionSort ltInt d a b).2) ∧ RowU w g o n w' (Sort.partialInsertionSort ltInt d a b).1 := by
  have H0 := hidU h
  clear h
  go_enter Try.func35, Try.ntmps35
  go_wp2_with fail
  go_loopw [7, 8] (fun vi vs wr => ∃ (i s : Nat) (dk : Array Int), vi = .int .i64 i ∧ vs = .int .i64 s ∧ s ≤ 5 ∧ a < i ∧ i ≤ b ∧ Hid (RowU w g o n wr dk) ∧ Hid (partialIns ltInt a b (5 - s) i dk = Sort.partialInsertionSort ltInt d a b)) (fun _ vs _ => 5 - (intOf vs).toNat)
  case atStart => exact ⟨a + 1, 0, d, by go_num, rfl, by omega, by omega, by omega, H0, rfl⟩
  case round =>
    obtain ⟨i, s, dk, rfl, rfl, hs5, hai, hib, HR, HO⟩ := hrel
    by_cases hs : s < 5
    · go_wp2_with fail
      go_loopw [7] (fun vi wr => ∃ (k : Nat), vi = .int .i64 k ∧ i ≤ k ∧ k ≤ b ∧ Hid (RowU w g o n wr dk) ∧ Hid (scanSorted ltInt dk b k = scanSorted ltInt dk b i)) (fun vi _ => b - (intOf vi).toNat)
      case atStart => exact ⟨i, rfl, Nat.le_refl _, hib, HR, rfl⟩
      case round =>
        obtain ⟨k, rfl, hik, hkb, HK0, HSC⟩ := hrel
        clear HR
        by_cases hk : k < b
        · have k1 : k < n := by omega
          have k2 : k - 1 < n := by omega
          obtain ⟨G, hG⟩ : ∃ G : Nat → Int, ∀ t, G t = dk[t]! := ⟨fun t => dk[t]!, fun _ => rfl⟩
          have hcw : ∀ t, t < n → wr.cell? ⟨g, o + t, none⟩ = some (.int .u64 (G t)) := fun t ht => by rw [hG]; exact HK0.out.cell t ht
          have hfw : ∀ t, t < n → wr.frozen? ⟨g, o + t, none⟩ = false := HK0.out.fz
          have HG := hidU hG
          clear hG
          cases hl : ltInt (G k) (G (k - 1))
          · go_wp2_with fail
            go_big_quiet (first | (go_at_call 36; refine Calls.quiet_of_same (less_u _ _ _)))
            go_wp2_with fail
            go_roundw
            case rel => exact ⟨k + 1, by go_num, by omega, by omega, HK0.out.drewN _, by show _ = _; rw [← HSC.out, scanSorted_go ltInt dk b k hk (by rw [← HG.out, ← HG.out]; exact hl)]⟩
            case measure => simp [intOf]; omega
          · have HK : Hid (scanSorted ltInt dk b i = k) := by
              show scanSorted ltInt dk b i = k
              rw [← HSC.out, scanSorted_stop ltInt dk b k (Or.inr (by rw [← HG.out, ← HG.out]; exact hl))]
            have hkbz : ((k : Int) == (b : Int)) = false := by simp; omega
            by_cases h50 : b - a < 50
            · have h50z : (b : Int) - (a : Int) < 50 := by omega
              have hv : Sort.partialInsertionSort ltInt d a b = (dk, false) := by
                rw [← HO.out, pi_short ltInt a b s i dk hs (by rw [HK.out]; omega) h50]
              have HV := hidU hv
              clear hv
              go_wp2_with fail
              go_big_quiet (first | (go_at_call 36; refine Calls.quiet_of_same (less_u _ _ _)))
              go_wp2_with fail
              go_ret
              exact ⟨by rw [HV.out]; rfl, by rw [HV.out]; exact HK0.out.drewN _⟩
            · have h50z : ¬ ((b : Int) - (a : Int) < 50) := by omega
              go_wp2_with fail
              go_big_quiet (first | (go_at_call 36; refine Calls.quiet_of_same (less_u _ _ _)))
              go_wp2_with fail
              replace HK0 : Hid (RowU w g o n (wr.drewN nq) dk) := HK0.out.drewN nq
              replace hcw : ∀ t, t < n → (wr.drewN nq).cell? ⟨g, o + t, none⟩ = some (.int .u64 (G t)) := hcw
              replace hfw : ∀ t, t < n → (wr.drewN nq).frozen? ⟨g, o + t, none⟩ = false := hfw
              generalize wr.drewN nq = wr2 at *
              clear nq
              go_region
              have HR1 := hidU (HK0.out.swapD k (k - 1) k1 k2)
              rw [← HG.out, ← HG.out] at HR1
              generalize World.drew _ = wr3 at *
              clear hcw hfw
              by_cases hdn : 2 ≤ k - a
              · have hdnz : (2 : Int) ≤ (k : Int) - (a : Int) := by omega
                go_wp2_with fail
                go_loopw [9] (fun vj wr => ∃ (j : Nat) (dj : Array Int), vj = .int .i64 j ∧ j ≤ k - 1 ∧ Hid (RowU w g o n wr dj) ∧ Hid (shiftDown ltInt j dj = shiftDown ltInt (k - 1) (swp dk k (k - 1)))) (fun vj _ => (intOf vj).toNat)
                case atStart => exact ⟨k - 1, (swp dk k (k - 1)), by congr 1; omega, Nat.le_refl _, HR1, rfl⟩
                case round =>
                  obtain ⟨j, dj, rfl, hjk, HJ, HS⟩ := hrel
                  by_cases hj : 1 ≤ j
                  · have j1 : j < n := by omega
                    have j2 : j - 1 < n := by omega
                    obtain ⟨G, hG⟩ : ∃ G : Nat → Int, ∀ t, G t = dj[t]! := ⟨fun t => dj[t]!, fun _ => rfl⟩
                    have hcw : ∀ t, t < n → wr.cell? ⟨g, o + t, none⟩ = some (.int .u64 (G t)) := fun t ht => by rw [hG]; exact HJ.out.cell t ht
                    have hfw : ∀ t, t < n → wr.frozen? ⟨g, o + t, none⟩ = false := HJ.out.fz
                    have HG := hidU hG
                    clear hG
                    cases hl : ltInt (G j) (G (j - 1))
                    · have HD : Hid (fixDown ltInt a k (swp dk k (k - 1)) = dj) := by
                        show fixDown ltInt a k (swp dk k (k - 1)) = dj
                        unfold fixDown; rw [if_pos hdn, ← HS.out, shiftDown_stop ltInt j dj (Or.inr (by rw [← HG.out, ← HG.out]; exact hl))]
                      go_wp2_with fail
                      go_big_quiet (first | (go_at_call 36; refine Calls.quiet_of_same (less_u _ _ _)))
                      go_upto_region 18 with fail
                      replace HJ : Hid (RowU w g o n (wr.drewN nq) dj) := HJ.out.drewN nq
                      replace hcw : ∀ t, t < n → (wr.drewN nq).cell? ⟨g, o + t, none⟩ = some (.int .u64 (G t)) := hcw
                      replace hfw : ∀ t, t < n → (wr.drewN nq).frozen? ⟨g, o + t, none⟩ = false := hfw
                      generalize wr.drewN nq = wr2 at *
                      clear nq
                      clear hcw hfw
                      by_cases hup : 2 ≤ b - k
                      · have hupz : (2 : Int) ≤ (b : Int) - (k : Int) := by omega
                        go_wp2_with fail
                        go_loopw [10] (fun vj wr => ∃ (j : Nat) (du : Array Int), vj = .int .i64 j ∧ k + 1 ≤ j ∧ j ≤ b ∧ Hid (RowU w g o n wr du) ∧ Hid (shiftUp ltInt b j du = shiftUp ltInt b (k + 1) dj)) (fun vj _ => b - (intOf vj).toNat)
                        case atStart => exact ⟨k + 1, dj, by go_num, Nat.le_refl _, by omega, HJ, rfl⟩
                        case round =>
                          obtain ⟨j, du, rfl, hkj, hjb, HU, HS⟩ := hrel
                          by_cases hj : j < b
                          · have j1 : j < n := by omega
                            have j2 : j - 1 < n := by omega
                            obtain ⟨G, hG⟩ : ∃ G : Nat → Int, ∀ t, G t = du[t]! := ⟨fun t => du[t]!, fun _ => rfl⟩
                            have hcw : ∀ t, t < n → wr.cell? ⟨g, o + t, none⟩ = some (.int .u64 (G t)) := fun t ht => by rw [hG]; exact HU.out.cell t ht
                            have hfw : ∀ t, t < n → wr.frozen? ⟨g, o + t, none⟩ = false := HU.out.fz
                            have HG := hidU hG
                            clear hG
                            cases hl : ltInt (G j) (G (j - 1))
                            · have HUP : Hid (fixUp ltInt b k dj = du) := by
                                show fixUp ltInt b k dj = du
                                unfold fixUp; rw [if_pos hup, ← HS.out, shiftUp_stop ltInt b j du (Or.inr (by rw [← HG.out, ← HG.out]; exact hl))]
                              go_wp2_with fail
                              go_big_quiet (first | (go_at_call 36; refine Calls.quiet_of_same (less_u _ _ _)))
                              go_wp2_with fail
                              go_roundw
                              case rel =>
                                refine ⟨k, s + 1, du, rfl, by go_num, by omega, by omega, by omega, (HU.out.drewN _), ?_⟩
                                show _ = _
                                rw [← HO.out, pi_go ltInt a b s i k dk hs HK.out (by omega) (by omega), HD.out, HUP.out]
                              case measure => simp [intOf]; omega
                            · go_wp2_with fail
                              go_big_quiet (first | (go_at_call 36; refine Calls.quiet_of_same (less_u _ _ _)))
                              go_wp2_with fail
                              replace HU : Hid (RowU w g o n (wr.drewN nq) du) := HU.out.drewN nq
                              replace hcw : ∀ t, t < n → (wr.drewN nq).cell? ⟨g, o + t, none⟩ = some (.int .u64 (G t)) := hcw
                              replace hfw : ∀ t, t < n → (wr.drewN nq).frozen? ⟨g, o + t, none⟩ = false := hfw
                              generalize wr.drewN nq = wr2 at *
                              clear nq
                              go_region
                              all_goals go_wp2_with fail
                              go_roundw
                              case rel =>
                                refine ⟨j + 1, swp du j (j - 1), by go_num, by omega, by omega, ?_, ?_⟩
                                · rw [HG.out, HG.out]; exact HU.out.swapD j (j - 1) j1 j2
                                · show _ = _
                                  rw [← HS.out, shiftUp_go ltInt b j du hj (by rw [← HG.out, ← HG.out]; exact hl)]
                              case measure => simp [intOf]; omega
                          · have HUP : Hid (fixUp ltInt b k dj = du) := by
                              show fixUp ltInt b k dj = du
                              unfold fixUp; rw [if_pos hup, ← HS.out, shiftUp_stop ltInt b j du (Or.inl hj)]
                            have hjz : ¬ ((j : Int) < (b : Int)) := by omega
                            go_wp2_with fail
                            go_roundw
                            case rel =>
                              refine ⟨k, s + 1, du, rfl, by go_num, by omega, by omega, by omega, HU, ?_⟩
                              show _ = _
                              rw [← HO.out, pi_go ltInt a b s i k dk hs HK.out (by omega) (by omega), HD.out, HUP.out]
                            case measure => simp [intOf]; omega
                      · have hupz : ¬ ((2 : Int) ≤ (b : Int) - (k : Int)) := by omega
                        have HUP : Hid (fixUp ltInt b k dj = dj) := by
                          show fixUp ltInt b k dj = dj
                          unfold fixUp; rw [if_neg hup]
                        go_wp2_with fail
                        go_roundw
                        case rel =>
                          refine ⟨k, s + 1, dj, rfl, by go_num, by omega, by omega, by omega, HJ, ?_⟩
                          show _ = _
                          rw [← HO.out, pi_go ltInt a b s i k dk hs HK.out (by omega) (by omega), HD.out, HUP.out]
                        case measure => simp [intOf]; omega
                    · go_wp2_with fail
                      go_big_quiet (first | (go_at_call 36; refine Calls.quiet_of_same (less_u _ _ _)))
                      go_wp2_with fail
                      replace HJ : Hid (RowU w g o n (wr.drewN nq) dj) := HJ.out.drewN nq
                      replace hcw : ∀ t, t < n → (wr.drewN nq).cell? ⟨g, o + t, none⟩ = some (.int .u64 (G t)) := hcw
                      replace hfw : ∀ t, t < n → (wr.drewN nq).frozen? ⟨g, o + t, none⟩ = false := hfw
                      generalize wr.drewN nq = wr2 at *
                      clear nq
                      go_region
                      all_goals go_wp2_with fail
                      go_roundw
                      case rel =>
                        refine ⟨j - 1, swp dj j (j - 1), by congr 1; omega, by omega, ?_, ?_⟩
                        · rw [HG.out, HG.out]; exact HJ.out.swapD j (j - 1) j1 j2
                        · show _ = _
                          rw [← HS.out, shiftDown_go ltInt j dj hj (by rw [← HG.out, ← HG.out]; exact hl)]
                      case measure => simp [intOf]; omega
                  · have HD : Hid (fixDown ltInt a k (swp dk k (k - 1)) = dj) := by
                      show fixDown ltInt a k (swp dk k (k - 1)) = dj
                      unfold fixDown; rw [if_pos hdn, ← HS.out, shiftDown_stop ltInt j dj (Or.inl (by omega))]
                    have hjz : ¬ ((1 : Int) ≤ (j : Int)) := by omega
                    go_upto_region 18 with fail
                    by_cases hup : 2 ≤ b - k
                    · have hupz : (2 : Int) ≤ (b : Int) - (k : Int) := by omega
                      go_wp2_with fail
                      go_loopw [10] (fun vj wr => ∃ (j : Nat) (du : Array Int), vj = .int .i64 j ∧ k + 1 ≤ j ∧ j ≤ b ∧ Hid (RowU w g o n wr du) ∧ Hid (shiftUp ltInt b j du = shiftUp ltInt b (k + 1) dj)) (fun vj _ => b - (intOf vj).toNat)
                      case atStart => exact ⟨k + 1, dj, by go_num, Nat.le_refl _, by omega, HJ, rfl⟩
                      case round =>
                        obtain ⟨j, du, rfl, hkj, hjb, HU, HS⟩ := hrel
                        by_cases hj : j < b
                        · have j1 : j < n := by omega
                          have j2 : j - 1 < n := by omega
                          obtain ⟨G, hG⟩ : ∃ G : Nat → Int, ∀ t, G t = du[t]! := ⟨fun t => du[t]!, fun _ => rfl⟩
                          have hcw : ∀ t, t < n → wr.cell? ⟨g, o + t, none⟩ = some (.int .u64 (G t)) := fun t ht => by rw [hG]; exact HU.out.cell t ht
                          have hfw : ∀ t, t < n → wr.frozen? ⟨g, o + t, none⟩ = false := HU.out.fz
                          have HG := hidU hG
                          clear hG
                          cases hl : ltInt (G j) (G (j - 1))
                          · have HUP : Hid (fixUp ltInt b k dj = du) := by
                              show fixUp ltInt b k dj = du
                              unfold fixUp; rw [if_pos hup, ← HS.out, shiftUp_stop ltInt b j du (Or.inr (by rw [← HG.out, ← HG.out]; exact hl))]
                            go_wp2_with fail
                            go_big_quiet (first | (go_at_call 36; refine Calls.quiet_of_same (less_u _ _ _)))
                            go_wp2_with fail
                            go_roundw
                            case rel =>
                              refine ⟨k, s + 1, du, rfl, by go_num, by omega, by omega, by omega, (HU.out.drewN _), ?_⟩
                              show _ = _
                              rw [← HO.out, pi_go ltInt a b s i k dk hs HK.out (by omega) (by omega), HD.out, HUP.out]
                            case measure => simp [intOf]; omega
                          · go_wp2_with fail
                            go_big_quiet (first | (go_at_call 36; refine Calls.quiet_of_same (less_u _ _ _)))
                            go_wp2_with fail
                            replace HU : Hid (RowU w g o n (wr.drewN nq) du) := HU.out.drewN nq
                            replace hcw : ∀ t, t < n → (wr.drewN nq).cell? ⟨g, o + t, none⟩ = some (.int .u64 (G t)) := hcw
                            replace hfw : ∀ t, t < n → (wr.drewN nq).frozen? ⟨g, o + t, none⟩ = false := hfw
                            generalize wr.drewN nq = wr2 at *
                            clear nq
                            go_region
                            all_goals go_wp2_with fail
                            go_roundw
                            case rel =>
                              refine ⟨j + 1, swp du j (j - 1), by go_num, by omega, by omega, ?_, ?_⟩
                              · rw [HG.out, HG.out]; exact HU.out.swapD j (j - 1) j1 j2
                              · show _ = _
                                rw [← HS.out, shiftUp_go ltInt b j du hj (by rw [← HG.out, ← HG.out]; exact hl)]
                            case measure => simp [intOf]; omega
                        · have HUP : Hid (fixUp ltInt b k dj = du) := by
                            show fixUp ltInt b k dj = du
                            unfold fixUp; rw [if_pos hup, ← HS.out, shiftUp_stop ltInt b j du (Or.inl hj)]
                          have hjz : ¬ ((j : Int) < (b : Int)) := by omega
                          go_wp2_with fail
                          go_roundw
                          case rel =>
                            refine ⟨k, s + 1, du, rfl, by go_num, by omega, by omega, by omega, HU, ?_⟩
                            show _ = _
                            rw [← HO.out, pi_go ltInt a b s i k dk hs HK.out (by omega) (by omega), HD.out, HUP.out]
                          case measure => simp [intOf]; omega
                    · have hupz : ¬ ((2 : Int) ≤ (b : Int) - (k : Int)) := by omega
                      have HUP : Hid (fixUp ltInt b k dj = dj) := by
                        show fixUp ltInt b k dj = dj
                        unfold fixUp; rw [if_neg hup]
                      go_wp2_with fail
                      go_roundw
                      case rel =>
                        refine ⟨k, s + 1, dj, rfl, by go_num, by omega, by omega, by omega, HJ, ?_⟩
                        show _ = _
                        rw [← HO.out, pi_go ltInt a b s i k dk hs HK.out (by omega) (by omega), HD.out, HUP.out]
                      case measure => simp [intOf]; omega
              · have hdnz : ¬ ((2 : Int) ≤ (k : Int) - (a : Int)) := by omega
                have HD : Hid (fixDown ltInt a k (swp dk k (k - 1)) = (swp dk k (k - 1))) := by
                  show fixDown ltInt a k (swp dk k (k - 1)) = (swp dk k (k - 1))
                  unfold fixDown; rw [if_neg hdn]
                go_upto_region 18 with fail
                by_cases hup : 2 ≤ b - k
                · have hupz : (2 : Int) ≤ (b : Int) - (k : Int) := by omega
                  go_wp2_with fail
                  go_loopw [10] (fun vj wr => ∃ (j : Nat) (du : Array Int), vj = .int .i64 j ∧ k + 1 ≤ j ∧ j ≤ b ∧ Hid (RowU w g o n wr du) ∧ Hid (shiftUp ltInt b j du = shiftUp ltInt b (k + 1) (swp dk k (k - 1)))) (fun vj _ => b - (intOf vj).toNat)
                  case atStart => exact ⟨k + 1, (swp dk k (k - 1)), by go_num, Nat.le_refl _, by omega, HR1, rfl⟩
                  case round =>
                    obtain ⟨j, du, rfl, hkj, hjb, HU, HS⟩ := hrel
                    by_cases hj : j < b
                    · have j1 : j < n := by omega
                      have j2 : j - 1 < n := by omega
                      obtain ⟨G, hG⟩ : ∃ G : Nat → Int, ∀ t, G t = du[t]! := ⟨fun t => du[t]!, fun _ => rfl⟩
                      have hcw : ∀ t, t < n → wr.cell? ⟨g, o + t, none⟩ = some (.int .u64 (G t)) := fun t ht => by rw [hG]; exact HU.out.cell t ht
                      have hfw : ∀ t, t < n → wr.frozen? ⟨g, o + t, none⟩ = false := HU.out.fz
                      have HG := hidU hG
                      clear hG
                      cases hl : ltInt (G j) (G (j - 1))
                      · have HUP : Hid (fixUp ltInt b k (swp dk k (k - 1)) = du) := by
                          show fixUp ltInt b k (swp dk k (k - 1)) = du
                          unfold fixUp; rw [if_pos hup, ← HS.out, shiftUp_stop ltInt b j du (Or.inr (by rw [← HG.out, ← HG.out]; exact hl))]
                        go_wp2_with fail
                        go_big_quiet (first | (go_at_call 36; refine Calls.quiet_of_same (less_u _ _ _)))
                        go_wp2_with fail
                        go_roundw
                        case rel =>
                          refine ⟨k, s + 1, du, rfl, by go_num, by omega, by omega, by omega, (HU.out.drewN _), ?_⟩
                          show _ = _
                          rw [← HO.out, pi_go ltInt a b s i k dk hs HK.out (by omega) (by omega), HD.out, HUP.out]
                        case measure => simp [intOf]; omega
                      · go_wp2_with fail
                        go_big_quiet (first | (go_at_call 36; refine Calls.quiet_of_same (less_u _ _ _)))
                        go_wp2_with fail
                        replace HU : Hid (RowU w g o n (wr.drewN nq) du) := HU.out.drewN nq
                        replace hcw : ∀ t, t < n → (wr.drewN nq).cell? ⟨g, o + t, none⟩ = some (.int .u64 (G t)) := hcw
                        replace hfw : ∀ t, t < n → (wr.drewN nq).frozen? ⟨g, o + t, none⟩ = false := hfw
                        generalize wr.drewN nq = wr2 at *
                        clear nq
                        go_region
                        all_goals go_wp2_with fail
                        go_roundw
                        case rel =>
                          refine ⟨j + 1, swp du j (j - 1), by go_num, by omega, by omega, ?_, ?_⟩
                          · rw [HG.out, HG.out]; exact HU.out.swapD j (j - 1) j1 j2
                          · show _ = _
                            rw [← HS.out, shiftUp_go ltInt b j du hj (by rw [← HG.out, ← HG.out]; exact hl)]
                        case measure => simp [intOf]; omega
                    · have HUP : Hid (fixUp ltInt b k (swp dk k (k - 1)) = du) := by
                        show fixUp ltInt b k (swp dk k (k - 1)) = du
                        unfold fixUp; rw [if_pos hup, ← HS.out, shiftUp_stop ltInt b j du (Or.inl hj)]
                      have hjz : ¬ ((j : Int) < (b : Int)) := by omega
                      go_wp2_with fail
                      go_roundw
                      case rel =>
                        refine ⟨k, s + 1, du, rfl, by go_num, by omega, by omega, by omega, HU, ?_⟩
                        show _ = _
                        rw [← HO.out, pi_go ltInt a b s i k dk hs HK.out (by omega) (by omega), HD.out, HUP.out]
                      case measure => simp [intOf]; omega
                · have hupz : ¬ ((2 : Int) ≤ (b : Int) - (k : Int)) := by omega
                  have HUP : Hid (fixUp ltInt b k (swp dk k (k - 1)) = (swp dk k (k - 1))) := by
                    show fixUp ltInt b k (swp dk k (k - 1)) = (swp dk k (k - 1))
                    unfold fixUp; rw [if_neg hup]
                  go_wp2_with fail
                  go_roundw
                  case rel =>
                    refine ⟨k, s + 1, (swp dk k (k - 1)), rfl, by go_num, by omega, by omega, by omega, HR1, ?_⟩
                    show _ = _
                    rw [← HO.out, pi_go ltInt a b s i k dk hs HK.out (by omega) (by omega), HD.out, HUP.out]
                  case measure => simp [intOf]; omega
        · have hk' : k = b := by omega
          have HK : Hid (scanSorted ltInt dk b i = b) := by
            show scanSorted ltInt dk b i = b
            rw [← HSC.out, scanSorted_stop ltInt dk b k (Or.inl hk), hk']
          have hv : Sort.partialInsertionSort ltInt d a b = (dk, true) := by
            rw [← HO.out, pi_true ltInt a b s i dk hs HK.out]
          have HV := hidU hv
          clear hv
          subst hk'
          go_wp2_with fail
          go_big_quiet (first | (go_at_call 36; refine Calls.quiet_of_same (less_u _ _ _)))
          go_wp2_with fail
          go_ret
          exact ⟨by rw [HV.out]; rfl, by rw [HV.out]; exact HK0.out.drewN _⟩
    · obtain rfl : s = 5 := by omega
      have hv : Sort.partialInsertionSort ltInt d a b = (dk, false) := by rw [← HO.out]; rfl
      have HV := hidU hv
      clear hv
      go_wp2_with fail
      go_ret
      exact ⟨by rw [HV.out]; rfl, by rw [HV.out]; exact HR.out⟩
end Go.Proofs.Qxb6605873a
