/-
  The walk of zzRanks (19). (Made by tools/genranks.py.)
-/
import Derived.Test.Qxb6605873aLk1
import Derived.Deep.CutRange
namespace Go.Proofs.Qxb6605873a
open Go.RowKit
set_option linter.unusedSimpArgs false
set_option linter.unusedVariables false

set_option maxHeartbeats 8000000 in
set_option maxRecDepth 100000 in
theorem ranks_some (ad : Addr) (n cap : Nat) (pos : Nat → Int) (w : World) (hc : ∀ j, j < n → w.cell? (ad.add j) = some (.int .u32 (pos j))) (hn : n ≤ 1048576) :
    Calls Try.prog 19 #[.slice (some ad) n cap] w fun e w' => ∃ g, e = .returned (.slice (some ⟨g, 0, none⟩) n n) ∧ w.heap.size ≤ g ∧ Below w.heap.size w w' ∧ ∃ σ r : Nat → Nat, Ord n (keyOf pos) σ ∧ (∀ q, q < n → r (σ q) = q) ∧ RowF .i64 w' g n (fun i => (r i : Int)) := by
  have hmk := run_make_row' (P := Try.prog) 34 3 (.int .i64 0) 8 Try.underlying34 Try.infoB3 rfl .i64 .i64 n (by omega) (by omega)
  have HS : Hid (∀ j, j < n → w.cell? (ad.add j) = some (.int .u32 (pos j))) := hc
  clear hc
  go_enter Try.func19, Try.ntmps19
  go_wp2_with fail
  go_loopw [5] (fun v5 wr => ∃ (k : Nat) (f : Nat → Nat), v5 = .int .i64 k ∧ k ≤ n ∧ Hid (Below w.heap.size w wr) ∧ Hid (RowF .i64 wr w.heap.size n (fun t => (f t : Int))) ∧ Hid (∀ t, t < k → f t = t)) (fun v5 _ => n - (intOf v5).toNat)
  case atStart => exact ⟨0, fun _ => 0, rfl, Nat.zero_le _, Below.alloc' (Below.refl _ _) (Nat.le_refl _) _, RowF.made .i64 w n 3, fun t ht => by omega⟩
  case round =>
    obtain ⟨k, f, rfl, hk, HB, HR, HF⟩ := hrel
    by_cases hlt : k < n
    · have hcw := HR.out.cell
      have hfw := HR.out.fz
      go_wp2_with fail
      go_roundw
      case rel =>
        refine ⟨k + 1, upd f k k, by go_num, by omega, Below.set' HB.out _ _ (Nat.le_refl _) _, ?_, ?_⟩
        · exact (HR.out.set k hlt k).congr (fun t ht => by unfold upd; split <;> rfl)
        · intro t ht
          by_cases e : t = k
          · subst e; exact upd_same _ _ _
          · rw [upd_off _ _ _ e]; exact HF.out t (by omega)
      case measure => simp [intOf]; omega
    · have hkn : n ≤ k := by omega
      go_wp2_with fail
      go_loopw [4, 6, 7] (fun v4 v6 v7 wx => ∃ (gi gb wd : Nat) (f g : Nat → Nat), v4 = .slice (some ⟨gi, 0, none⟩) n n ∧ v6 = .slice (some ⟨gb, 0, none⟩) n n ∧ v7 = .int .i64 wd ∧ 0 < wd ∧ wd ≤ 2097152 ∧ gi ≠ gb ∧ w.heap.size ≤ gi ∧ w.heap.size ≤ gb ∧ Hid (Below w.heap.size w wx) ∧ Hid (RowF .i64 wx gi n (fun t => (f t : Int))) ∧ Hid (RowF .i64 wx gb n (fun t => (g t : Int))) ∧ Hid (∀ l, wd ∣ l → Blk (keyOf pos) l (min (l + wd) n) f)) (fun _ _ v7 _ => n - (intOf v7).toNat)
      case atStart =>
        refine ⟨_, _, 1, f, fun _ => 0, rfl, rfl, rfl, by omega, by omega, ?_, Nat.le_refl _, ?_, Below.alloc' HB.out HB.out.size _, HR.out.alloc _, RowF.made .i64 wr n 3, ?_⟩
        · have := HR.out.lt; omega
        · exact HB.out.size
        · intro l _; exact Blk.one (by omega) (fun t a b => HF.out t (by omega))
      case round =>
        clear HB HR HF hkn hlt hk
        obtain ⟨gi, gb, wd, f, g, rfl, rfl, rfl, hw0, hw1, hne, hgi, hgb, HB, HI, HG, HK⟩ := hrel
        by_cases hlt : wd < n
        · go_wp2_with fail
          go_loopw [8] (fun v8 wy => ∃ (lo : Nat) (g : Nat → Nat), v8 = .int .i64 lo ∧ 2 * wd ∣ lo ∧ lo ≤ 8388608 ∧ Hid (Below w.heap.size w wy) ∧ Hid (RowF .i64 wy gi n (fun t => (f t : Int))) ∧ Hid (RowF .i64 wy gb n (fun t => (g t : Int))) ∧ Hid (∀ l, 2 * wd ∣ l → l + 2 * wd ≤ lo → Blk (keyOf pos) l (min (l + 2 * wd) n) g)) (fun v8 _ => n - (intOf v8).toNat)
          case atStart => exact ⟨0, g, rfl, Nat.dvd_zero _, by omega, HB, HI, HG, fun l _ hl => by omega⟩
          case round =>
            clear HB HI HG
            obtain ⟨lo, g, rfl, hdv, hlo8, HB, HI, HG, HD⟩ := hrel
            by_cases hll : lo < n
            · go_upto_if 48 with fail
              go_cut [9] from 36 to 131 (fun v9 wx => ∃ mid : Nat, v9 = .int .i64 mid ∧ Hid (mid = min (lo + wd) n) ∧ Hid (Below w.heap.size w wx) ∧ Hid (RowF .i64 wx gi n (fun t => (f t : Int))) ∧ Hid (RowF .i64 wx gb n (fun t => (g t : Int))))
              case first =>
                by_cases hm : lo + wd ≤ n
                · go_wp2_with fail
                  go_meet
                  case rel => exact ⟨lo + wd, by go_num, hidU (by omega), HB, HI, HG⟩
                · go_wp2_with fail
                  go_meet
                  case rel => exact ⟨n, rfl, hidU (by omega), HB, HI, HG⟩
              case rest =>
                clear HB HI HG
                obtain ⟨mid, rfl, hmid, HB, HI, HG⟩ := hcut
                go_upto_if 56 with fail
                go_cut [10] from 36 to 131 (fun v10 wx => ∃ hi : Nat, v10 = .int .i64 hi ∧ Hid (hi = min (lo + 2 * wd) n) ∧ Hid (Below w.heap.size w wx) ∧ Hid (RowF .i64 wx gi n (fun t => (f t : Int))) ∧ Hid (RowF .i64 wx gb n (fun t => (g t : Int))))
                case first =>
                  by_cases hm : lo + 2 * wd ≤ n
                  · go_wp2_with fail
                    go_meet
                    case rel => exact ⟨lo + 2 * wd, by go_num, hidU (by omega), HB, HI, HG⟩
                  · go_wp2_with fail
                    go_meet
                    case rel => exact ⟨n, rfl, hidU (by omega), HB, HI, HG⟩
                case rest =>
                  clear HB HI HG
                  obtain ⟨hi, rfl, hhi, HB, HI, HG⟩ := hcut
                  have hdv1 : wd ∣ lo := Nat.dvd_trans (Nat.dvd_mul_left _ _) hdv
                  have HM : Hid (Mg (keyOf pos) lo mid hi lo mid f g g) := by
                    refine Mg.start (by have e1 := hmid.out; omega) (by have e1 := hmid.out; have e2 := hhi.out; omega) ?_ ?_
                    · have := HK.out lo hdv1; rw [← hmid.out] at this; exact this
                    · by_cases hq : lo + wd ≤ n
                      · have := HK.out (lo + wd) (Nat.dvd_add hdv1 (Nat.dvd_refl _))
                        have e1 : min (lo + wd + wd) n = hi := by have e2 := hhi.out; omega
                        have e2 : lo + wd = mid := by have e2 := hmid.out; omega
                        rw [e1, e2] at this; exact this
                      · exact Blk.empty (by have e1 := hmid.out; have e2 := hhi.out; omega)
                  have hmn : mid ≤ n := by have e1 := hmid.out; have e2 := hhi.out; omega
                  have hhn : hi ≤ n := by have e1 := hmid.out; have e2 := hhi.out; omega
                  have hlm : lo ≤ mid := by have e1 := hmid.out; have e2 := hhi.out; omega
                  have hmh : mid ≤ hi := by have e1 := hmid.out; have e2 := hhi.out; omega
                  go_wp2_with fail
                  go_loopw [11, 12, 13] (fun v11 v12 v13 wz => ∃ (a b k : Nat) (h : Nat → Nat), v11 = .int .i64 a ∧ v12 = .int .i64 b ∧ v13 = .int .i64 k ∧ Hid (k = a + b - mid) ∧ Hid (Below w.heap.size w wz) ∧ Hid (RowF .i64 wz gi n (fun t => (f t : Int))) ∧ Hid (RowF .i64 wz gb n (fun t => (h t : Int))) ∧ Hid (Mg (keyOf pos) lo mid hi a b f h g)) (fun v11 v12 _ _ => (mid - (intOf v11).toNat) + (hi - (intOf v12).toNat))
                  case atStart => exact ⟨lo, mid, lo, g, rfl, rfl, rfl, hidU (by omega), HB, HI, HG, HM⟩
                  case round =>
                    clear HB HI HG HM
                    obtain ⟨a, b, k, h, rfl, rfl, rfl, hk, HB, HI, HG, HM⟩ := hrel
                    have m1 := HM.out.h1
                    have m2 := HM.out.h2
                    have m3 := HM.out.h3
                    have m4 := HM.out.h4
                    go_upto_region 23 with fail
                    go_cut [68] from 61 to 103 (fun v68 wz => v68 = .bool (decide (a < mid ∧ b < hi)) ∧ Hid (Below w.heap.size w wz) ∧ Hid (RowF .i64 wz gi n (fun t => (f t : Int))) ∧ Hid (RowF .i64 wz gb n (fun t => (h t : Int))))
                    case first =>
                      by_cases c1 : a < mid
                      · by_cases c2 : b < hi
                        · go_wp2_with fail
                          go_meet
                          case rel => exact ⟨by simp [c1, c2], HB, HI, HG⟩
                        · go_wp2_with fail
                          go_meet
                          case rel => exact ⟨by simp [c1, c2], HB, HI, HG⟩
                      · go_wp2_with fail
                        go_meet
                        case rel => exact ⟨by simp [c1], HB, HI, HG⟩
                    case rest =>
                      clear HB HI HG
                      obtain ⟨rfl, HB, HI, HG⟩ := hcut
                      by_cases hab : a < mid ∧ b < hi
                      · obtain ⟨c1, c2⟩ := hab
                        have hdt : decide (a < mid ∧ b < hi) = true := by simp [c1, c2]
                        have hfa : f a < n := by have := HM.out.L.rng a m1 c1; omega
                        have hfb : f b < n := by have := HM.out.R.rng b m3 c2; omega
                        have han : a < n := by omega
                        have hbn : b < n := by omega
                        have hkn : k < n := by have e3 := hk.out; omega
                        have hcw := HI.out.cell
                        have hpw : ∀ j, j < n → wc.cell? (ad.add j) = some (.int .u32 (pos j)) := fun j hj => (HB.out.cell (World.block_lt_of_cell? w _ (HS.out j hj))).trans (HS.out j hj)
                        rw [hdt]
                        go_upto_region 24 with fail
                        by_cases hl : pos (f b) < pos (f a)
                        · have HL : Hid (keyOf pos (f b) < keyOf pos (f a)) := keyOf_lt (by omega) hl
                          go_quiet (fail)
                          have hcb := HG.out.cell
                          have hfz := HG.out.fz
                          go_wp2_with fail
                          go_roundw
                          case rel => exact ⟨a, b + 1, k + 1, upd h k (f b), rfl, by go_num, by go_num, hidU (by have e3 := hk.out; omega), Below.set' (Below.drewN' HB.out _) _ _ hgb _, (HI.out.drewN _).other _ _ hne _, ((HG.out.drewN _).set k hkn (f b)).congr (fun t ht => by unfold upd; split <;> rfl), by rw [hk.out]; exact HM.out.takeB c2 (fun _ => HL.out)⟩
                          case measure => simp [intOf]; omega
                        · have HL : Hid (keyOf pos (f a) < keyOf pos (f b)) := keyOf_le (by omega) (by have := HM.out.L.rng a m1 c1; have := HM.out.R.rng b m3 c2; omega)
                          go_quiet (fail)
                          have hcb := HG.out.cell
                          have hfz := HG.out.fz
                          go_wp2_with fail
                          go_roundw
                          case rel => exact ⟨a + 1, b, k + 1, upd h k (f a), by go_num, rfl, by go_num, hidU (by have e3 := hk.out; omega), Below.set' (Below.drewN' HB.out _) _ _ hgb _, (HI.out.drewN _).other _ _ hne _, ((HG.out.drewN _).set k hkn (f a)).congr (fun t ht => by unfold upd; split <;> rfl), by rw [hk.out]; exact HM.out.takeA c1 (fun _ => HL.out)⟩
                          case measure => simp [intOf]; omega
                      · have hdt : decide (a < mid ∧ b < hi) = false := by simpa using hab
                        rw [hdt]
                        go_wp2_with fail
                        go_loopw [11, 13] (fun v11 v13 wz => ∃ (a k : Nat) (h : Nat → Nat), v11 = .int .i64 a ∧ v13 = .int .i64 k ∧ Hid (k = a + b - mid) ∧ Hid (a < mid → b = hi) ∧ Hid (Below w.heap.size w wz) ∧ Hid (RowF .i64 wz gi n (fun t => (f t : Int))) ∧ Hid (RowF .i64 wz gb n (fun t => (h t : Int))) ∧ Hid (Mg (keyOf pos) lo mid hi a b f h g)) (fun v11 _ _ => mid - (intOf v11).toNat)
                        case atStart => exact ⟨a, k, h, rfl, rfl, hk, hidU (by omega), HB, HI, HG, HM⟩
                        case round =>
                          clear HB HI HG HM hab hdt hk m1 m2
                          obtain ⟨a, k, h, rfl, rfl, hk, hab, HB, HI, HG, HM⟩ := hrel
                          have m1 := HM.out.h1
                          have m2 := HM.out.h2
                          by_cases c1 : a < mid
                          · have han : a < n := by omega
                            have hkn : k < n := by have e3 := hk.out; omega
                            have hcw := HI.out.cell
                            have hcb := HG.out.cell
                            have hfz := HG.out.fz
                            go_wp2_with fail
                            go_roundw
                            case rel => exact ⟨a + 1, k + 1, upd h k (f a), by go_num, by go_num, hidU (by have e3 := hk.out; omega), hidU (fun _ => hab.out c1), Below.set' HB.out _ _ hgb _, HI.out.other _ _ hne _, (HG.out.set k hkn (f a)).congr (fun t ht => by unfold upd; split <;> rfl), by rw [hk.out]; exact HM.out.takeA c1 (fun hh => by have := hab.out c1; omega)⟩
                            case measure => simp [intOf]; omega
                          · have ham : Hid (a = mid) := hidU (by omega)
                            go_wp2_with fail
                            go_loopw [12, 13] (fun v12 v13 wz => ∃ (b k : Nat) (h : Nat → Nat), v12 = .int .i64 b ∧ v13 = .int .i64 k ∧ Hid (k = a + b - mid) ∧ Hid (Below w.heap.size w wz) ∧ Hid (RowF .i64 wz gi n (fun t => (f t : Int))) ∧ Hid (RowF .i64 wz gb n (fun t => (h t : Int))) ∧ Hid (Mg (keyOf pos) lo mid hi a b f h g)) (fun v12 _ _ => hi - (intOf v12).toNat)
                            case atStart => exact ⟨b, k, h, rfl, rfl, hk, HB, HI, HG, HM⟩
                            case round =>
                              clear HB HI HG HM hk m3 m4 hab
                              obtain ⟨b, k, h, rfl, rfl, hk, HB, HI, HG, HM⟩ := hrel
                              have m3 := HM.out.h3
                              have m4 := HM.out.h4
                              by_cases c2 : b < hi
                              · have hbn : b < n := by omega
                                have hkn : k < n := by have e3 := hk.out; omega
                                have hcw := HI.out.cell
                                have hcb := HG.out.cell
                                have hfz := HG.out.fz
                                go_wp2_with fail
                                go_roundw
                                case rel => exact ⟨b + 1, k + 1, upd h k (f b), by go_num, by go_num, hidU (by have e3 := hk.out; omega), Below.set' HB.out _ _ hgb _, HI.out.other _ _ hne _, (HG.out.set k hkn (f b)).congr (fun t ht => by unfold upd; split <;> rfl), by rw [hk.out]; exact HM.out.takeB c2 (fun hh => by omega)⟩
                                case measure => simp [intOf]; omega
                              · have hbh : Hid (b = hi) := hidU (by omega)
                                have HE : Hid (Blk (keyOf pos) lo hi h) := by
                                  have := HM.out
                                  rw [ham.out, hbh.out] at this
                                  exact this.done
                                go_wp2_with fail
                                go_roundw
                                case rel =>
                                  refine ⟨lo + 2 * wd, h, by go_num, Nat.dvd_add hdv (Nat.dvd_refl _), by omega, HB, HI, HG, ?_⟩
                                  intro l hl1 hl2
                                  by_cases hll2 : l < lo
                                  · have hl3 := dvd_next hl1 hdv hll2
                                    exact (HD.out l hl1 hl3).congr (fun t a b => HM.out.keep t (by omega))
                                  · have e : l = lo := by omega
                                    rw [e, ← hhi.out]; exact HE.out
                                case measure => simp [intOf]; omega
            · go_wp2_with fail
              go_roundw
              case rel =>
                refine ⟨gb, gi, wd * 2, g, f, rfl, rfl, by go_num, by omega, by omega, hne.symm, hgb, hgi, HB, HG, HI, ?_⟩
                intro l hl
                have e : wd * 2 = 2 * wd := by omega
                rw [e] at hl ⊢
                by_cases hln : l < n
                · exact HD.out l hl (dvd_next hl hdv (by omega))
                · exact Blk.empty (by omega)
              case measure => simp [intOf]; omega
        · have HO : Hid (Ord n (keyOf pos) f) := by
            have := HK.out 0 (Nat.dvd_zero _)
            have e : min (0 + wd) n = n := by omega
            rw [e] at this; exact this.ord
          have hne2 : gi ≠ wr.heap.size := by have := HI.out.lt; omega
          have hgr2 : w.heap.size ≤ wr.heap.size := HB.out.size
          clear HG
          go_wp2_with fail
          go_loopw [15] (fun v15 wz => ∃ (q : Nat) (r : Nat → Nat), v15 = .int .i64 q ∧ q ≤ n ∧ Hid (Below w.heap.size w wz) ∧ Hid (RowF .i64 wz gi n (fun t => (f t : Int))) ∧ Hid (RowF .i64 wz wr.heap.size n (fun t => (r t : Int))) ∧ Hid (∀ t, t < q → r (f t) = t)) (fun v15 _ => n - (intOf v15).toNat)
          case atStart => exact ⟨0, fun _ => 0, rfl, by omega, Below.alloc' HB.out HB.out.size _, HI.out.alloc _, RowF.made .i64 wr n 3, fun t ht => by omega⟩
          case round =>
            clear HB HI
            obtain ⟨q, r, rfl, hq, HB, HI, HG, HR⟩ := hrel
            by_cases hqn : q < n
            · have hfq := HO.out.lt q hqn
              have hcw := HI.out.cell
              have hcb := HG.out.cell
              have hfz := HG.out.fz
              go_wp2_with fail
              go_roundw
              case rel =>
                refine ⟨q + 1, upd r (f q) q, by go_num, by omega, Below.set' HB.out _ _ hgr2 _, HI.out.other _ _ hne2 _, (HG.out.set (f q) hfq q).congr (fun t ht => by unfold upd; split <;> rfl), ?_⟩
                intro t ht
                by_cases e : t = q
                · subst e; exact upd_same _ _ _
                · rw [upd_off _ _ _ (fun e' => e (HO.out.inj (by omega) hqn e'))]; exact HR.out t (by omega)
              case measure => simp [intOf]; omega
            · have hqe : n ≤ q := by omega
              go_wp2_with fail
              go_ret
              exact ⟨_, rfl, hgr2, HB.out, f, r, HO.out, fun t ht => HR.out t (by omega), HG.out⟩

set_option maxHeartbeats 8000000 in
set_option maxRecDepth 100000 in
theorem ranks_none (n cap : Nat) (pos : Nat → Int) (w : World) (hn0 : Hid (n = 0)) (hn : n ≤ 1048576) :
    Calls Try.prog 19 #[.slice none n cap] w fun e w' => ∃ g, e = .returned (.slice (some ⟨g, 0, none⟩) n n) ∧ w.heap.size ≤ g ∧ Below w.heap.size w w' ∧ ∃ σ r : Nat → Nat, Ord n (keyOf pos) σ ∧ (∀ q, q < n → r (σ q) = q) ∧ RowF .i64 w' g n (fun i => (r i : Int)) := by
  have hmk := run_make_row' (P := Try.prog) 34 3 (.int .i64 0) 8 Try.underlying34 Try.infoB3 rfl .i64 .i64 n (by omega) (by omega)
  go_enter Try.func19, Try.ntmps19
  go_wp2_with fail
  go_loopw [5] (fun v5 wr => ∃ (k : Nat) (f : Nat → Nat), v5 = .int .i64 k ∧ k ≤ n ∧ Hid (Below w.heap.size w wr) ∧ Hid (RowF .i64 wr w.heap.size n (fun t => (f t : Int))) ∧ Hid (∀ t, t < k → f t = t)) (fun v5 _ => n - (intOf v5).toNat)
  case atStart => exact ⟨0, fun _ => 0, rfl, Nat.zero_le _, Below.alloc' (Below.refl _ _) (Nat.le_refl _) _, RowF.made .i64 w n 3, fun t ht => by omega⟩
  case round =>
    obtain ⟨k, f, rfl, hk, HB, HR, HF⟩ := hrel
    by_cases hlt : k < n
    · have hcw := HR.out.cell
      have hfw := HR.out.fz
      go_wp2_with fail
      go_roundw
      case rel =>
        refine ⟨k + 1, upd f k k, by go_num, by omega, Below.set' HB.out _ _ (Nat.le_refl _) _, ?_, ?_⟩
        · exact (HR.out.set k hlt k).congr (fun t ht => by unfold upd; split <;> rfl)
        · intro t ht
          by_cases e : t = k
          · subst e; exact upd_same _ _ _
          · rw [upd_off _ _ _ e]; exact HF.out t (by omega)
      case measure => simp [intOf]; omega
    · have hkn : n ≤ k := by omega
      go_wp2_with fail
      go_loopw [4, 6, 7] (fun v4 v6 v7 wx => ∃ (gi gb wd : Nat) (f g : Nat → Nat), v4 = .slice (some ⟨gi, 0, none⟩) n n ∧ v6 = .slice (some ⟨gb, 0, none⟩) n n ∧ v7 = .int .i64 wd ∧ 0 < wd ∧ wd ≤ 2097152 ∧ gi ≠ gb ∧ w.heap.size ≤ gi ∧ w.heap.size ≤ gb ∧ Hid (Below w.heap.size w wx) ∧ Hid (RowF .i64 wx gi n (fun t => (f t : Int))) ∧ Hid (RowF .i64 wx gb n (fun t => (g t : Int))) ∧ Hid (∀ l, wd ∣ l → Blk (keyOf pos) l (min (l + wd) n) f)) (fun _ _ v7 _ => n - (intOf v7).toNat)
      case atStart =>
        refine ⟨_, _, 1, f, fun _ => 0, rfl, rfl, rfl, by omega, by omega, ?_, Nat.le_refl _, ?_, Below.alloc' HB.out HB.out.size _, HR.out.alloc _, RowF.made .i64 wr n 3, ?_⟩
        · have := HR.out.lt; omega
        · exact HB.out.size
        · intro l _; exact Blk.one (by omega) (fun t a b => HF.out t (by omega))
      case round =>
        clear HB HR HF hkn hlt hk
        obtain ⟨gi, gb, wd, f, g, rfl, rfl, rfl, hw0, hw1, hne, hgi, hgb, HB, HI, HG, HK⟩ := hrel
        by_cases hlt : wd < n
        · exfalso; have := hn0.out; omega
        · have HO : Hid (Ord n (keyOf pos) f) := by
            have := HK.out 0 (Nat.dvd_zero _)
            have e : min (0 + wd) n = n := by omega
            rw [e] at this; exact this.ord
          have hne2 : gi ≠ wr.heap.size := by have := HI.out.lt; omega
          have hgr2 : w.heap.size ≤ wr.heap.size := HB.out.size
          clear HG
          go_wp2_with fail
          go_loopw [15] (fun v15 wz => ∃ (q : Nat) (r : Nat → Nat), v15 = .int .i64 q ∧ q ≤ n ∧ Hid (Below w.heap.size w wz) ∧ Hid (RowF .i64 wz gi n (fun t => (f t : Int))) ∧ Hid (RowF .i64 wz wr.heap.size n (fun t => (r t : Int))) ∧ Hid (∀ t, t < q → r (f t) = t)) (fun v15 _ => n - (intOf v15).toNat)
          case atStart => exact ⟨0, fun _ => 0, rfl, by omega, Below.alloc' HB.out HB.out.size _, HI.out.alloc _, RowF.made .i64 wr n 3, fun t ht => by omega⟩
          case round =>
            clear HB HI
            obtain ⟨q, r, rfl, hq, HB, HI, HG, HR⟩ := hrel
            by_cases hqn : q < n
            · have hfq := HO.out.lt q hqn
              have hcw := HI.out.cell
              have hcb := HG.out.cell
              have hfz := HG.out.fz
              go_wp2_with fail
              go_roundw
              case rel =>
                refine ⟨q + 1, upd r (f q) q, by go_num, by omega, Below.set' HB.out _ _ hgr2 _, HI.out.other _ _ hne2 _, (HG.out.set (f q) hfq q).congr (fun t ht => by unfold upd; split <;> rfl), ?_⟩
                intro t ht
                by_cases e : t = q
                · subst e; exact upd_same _ _ _
                · rw [upd_off _ _ _ (fun e' => e (HO.out.inj (by omega) hqn e'))]; exact HR.out t (by omega)
              case measure => simp [intOf]; omega
            · have hqe : n ≤ q := by omega
              go_wp2_with fail
              go_ret
              exact ⟨_, rfl, hgr2, HB.out, f, r, HO.out, fun t ht => HR.out t (by omega), HG.out⟩

theorem ranks_u (ao : Option Addr) (n cap : Nat) (pos : Nat → Int) (w : World) (hs : Src .u32 w ao n pos) (hn : n ≤ 1048576) :
    Calls Try.prog 19 #[.slice ao n cap] w fun e w' => ∃ g, e = .returned (.slice (some ⟨g, 0, none⟩) n n) ∧ w.heap.size ≤ g ∧ Below w.heap.size w w' ∧ ∃ σ r : Nat → Nat, Ord n (keyOf pos) σ ∧ (∀ q, q < n → r (σ q) = q) ∧ RowF .i64 w' g n (fun i => (r i : Int)) := by
  cases ao with
  | none => exact ranks_none n cap pos w (hidU (hs.nil rfl)) hn
  | some ad => exact ranks_some ad n cap pos w (hs.cell ad rfl) hn
end Go.Proofs.Qxb6605873a
