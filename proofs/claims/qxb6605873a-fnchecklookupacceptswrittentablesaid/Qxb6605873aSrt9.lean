/-
  The library's sort at uint64: pdqsortOrdered (28).
-/
import Derived.Test.Qxb6605873aSrt3
import Derived.Test.Qxb6605873aSrt5
import Derived.Test.Qxb6605873aSrt7
import Derived.Test.Qxb6605873aSrt8
import Derived.Deep.CutRange
namespace Go.Proofs.Qxb6605873a
open Go.RowKit Go.Sort
set_option linter.unusedSimpArgs false
set_option linter.unusedVariables false

set_option maxHeartbeats 40000000 in
set_option maxRecDepth 100000 in
theorem pdq_u : ∀ (N g o n cap a b limit : Nat) (d : Array Int) (w : World), b - a < N → RowU w g o n w d → a ≤ b → b ≤ n → n ≤ 1048576 → limit ≤ 1048576 → Ahd a b d →
    Calls Try.prog 28 #[.slice (some ⟨g, o, none⟩) n cap, .int .i64 a, .int .i64 b, .int .i64 limit] w fun e w' => e = .returned (.tuple #[]) ∧ ∃ d', RowU w g o n w' d' ∧ PermIn a b d d' ∧ SortedIn ltInt a b d' := by
  intro N
  induction N with
  | zero => intro g o n cap a b limit d w h; omega
  | succ N ih =>
    intro g o n cap a b limit d w hN h hab hb hn hlim ha
    have HI := hidU ih
    have H0 := hidU h
    have HT0 := hidU (Rest.start hab (by rw [h.size]; exact hb) ha)
    clear ih h ha
    go_enter Try.func28, Try.ntmps28
    go_wp2_with fail
    go_loopw [1, 2, 3, 8, 9] (fun v1 v2 v3 v8 v9 wr => ∃ (a1 b1 lim : Nat) (wb wp : Bool) (dk : Array Int), v1 = .int .i64 a1 ∧ v2 = .int .i64 b1 ∧ v3 = .int .i64 lim ∧ v8 = .bool wb ∧ v9 = .bool wp ∧ lim ≤ 1048576 ∧ b1 - a1 ≤ b - a ∧ Hid (RowU w g o n wr dk) ∧ Hid (Rest a b d a1 b1 dk)) (fun v1 v2 _ _ _ _ => (intOf v2 - intOf v1).toNat)
    case atStart => exact ⟨a, b, limit, true, true, d, rfl, rfl, rfl, rfl, rfl, hlim, Nat.le_refl _, H0, HT0⟩
    case round =>
      obtain ⟨a1, b1, lim0, wb, wp, dk, rfl, rfl, rfl, rfl, rfl, hlm, hba, HR, HT⟩ := hrel
      have h1 := HT.out.h1
      have h2 := HT.out.h2
      have h3 := HT.out.h3
      have hb1n : b1 ≤ n := by omega
      by_cases h12 : b1 - a1 ≤ 12
      · have hz : (b1 : Int) - (a1 : Int) ≤ 12 := by omega
        obtain ⟨pi, si⟩ := insertionSort_holds swo_ltInt dk a1 b1 h2 (by rw [HT.out.size]; have := HT.out.h4; omega)
        have HF := hidU (HT.out.done pi si)
        clear pi si
        go_wp2_with fail
        refine (insertion_u g o n cap a1 b1 dk wr HR.out.start h2 hb1n hn).mono ?_
        rintro e w2 ⟨rfl, hx⟩
        have HR2 := hidU (HR.out.trans hx)
        clear hx
        go_wp2_with fail
        (try simp only [Exit.inBlock, Exit.then]); refine bodyPost_ret (results_none rfl _ _ _) rfl ?_
        exact ⟨rfl, _, HR2.out, HF.out.1, HF.out.2⟩
      · have hz : ¬ ((b1 : Int) - (a1 : Int) ≤ 12) := by omega
        by_cases hl0 : lim0 = 0
        · subst hl0
          obtain ⟨pi, si⟩ := heapSort_holds swo_ltInt dk a1 b1 h2 (by rw [HT.out.size]; have := HT.out.h4; omega)
          have HF := hidU (HT.out.done pi si)
          clear pi si
          go_wp2_with fail
          refine (heap_u g o n cap a1 b1 dk wr HR.out.start h2 hb1n hn).mono ?_
          rintro e w2 ⟨rfl, hx⟩
          have HR2 := hidU (HR.out.trans hx)
          clear hx
          go_wp2_with fail
          (try simp only [Exit.inBlock, Exit.then]); refine bodyPost_ret (results_none rfl _ _ _) rfl ?_
          exact ⟨rfl, _, HR2.out, HF.out.1, HF.out.2⟩
        · have hlz : ((lim0 : Int) == 0) = false := by simp; omega
          go_upto_if 35 with fail
          go_cut [3] from 19 to 133 (fun v3 wx => ∃ (lim : Nat) (dx : Array Int), v3 = .int .i64 lim ∧ lim ≤ 1048576 ∧ Hid (RowU w g o n wx dx) ∧ Hid (Rest a b d a1 b1 dx))
          case first =>
            cases wb
            · go_wp2_with fail
              refine (break_u g o n cap a1 b1 dk wr HR.out.start h2 hb1n hn).mono ?_
              rintro e w2 ⟨rfl, dx, hx, px⟩
              replace HR := hidU (HR.out.trans hx)
              replace HT := hidU (HT.out.shuf px)
              clear hx px
              go_wp2_with fail
              go_meet
              case rel => exact ⟨lim0 - 1, dx, by congr 1; omega, by omega, HR, HT⟩
            · go_wp2_with fail
              go_meet
              case rel => exact ⟨lim0, dk, rfl, hlm, HR, HT⟩
          case rest =>
            clear HR HT
            obtain ⟨lim, dx0, rfl, hlm', HR, HT⟩ := hcut
            go_wp2_with fail
            refine (choose_u g o n cap a1 b1 dx0 wc HR.out.start (by omega) hb1n hn).mono ?_
            rintro e w3 ⟨p0, hint, rfl, hh, q1, q2, h3⟩
            replace HR := hidU (HR.out.trans h3)
            clear h3
            go_upto_if 50 with fail
            go_cut [11, 12] from 19 to 133 (fun v11 v12 wx => ∃ (p : Nat) (hint : Int) (dx : Array Int), v11 = .int .i64 p ∧ v12 = .int .i64 hint ∧ (hint = 0 ∨ hint = 1 ∨ hint = 2) ∧ a1 ≤ p ∧ p < b1 ∧ Hid (RowU w g o n wx dx) ∧ Hid (Rest a b d a1 b1 dx))
            case first =>
              by_cases hh2 : hint = 2
              · subst hh2
                go_wp2_with fail
                refine (reverse_u g o n cap a1 b1 dx0 w3 HR.out.start (by omega) hb1n hn).mono ?_
                rintro e w4 ⟨rfl, dr, h4, p4⟩
                replace HR := hidU (HR.out.trans h4)
                replace HT := hidU (HT.out.shuf p4)
                clear h4 p4
                go_wp2_with fail
                go_meet
                case rel => exact ⟨b1 - 1 - (p0 - a1), 1, dr, by congr 1; omega, rfl, by decide, by omega, by omega, HR, HT⟩
              · have hh2z : (hint == 2) = false := by simpa using hh2
                go_wp2_with fail
                go_meet
                case rel => exact ⟨p0, hint, dx0, rfl, rfl, hh, q1, q2, HR, HT⟩
            case rest =>
              clear HR HT q1 q2 hh
              obtain ⟨p, hint, dx1, rfl, rfl, hh, hp1, hp2, HR, HT⟩ := hcut
              go_upto_region 15 with fail
              have HRw := HR
              go_cut [68] from 19 to 133 (fun v68 wx => v68 = .bool (wb && wp && decide (hint = 1)) ∧ Hid (RowU w g o n wx dx1))
              case first =>
                rcases hh with rfl | rfl | rfl <;> cases wb <;> cases wp
                all_goals
                  go_wp2_with fail
                  go_meet
                  case rel => exact ⟨rfl, HR⟩
              case rest =>
                clear HR HRw
                obtain ⟨rfl, HR⟩ := hcut
                generalize (wb && wp && decide (hint = 1)) = cnd
                go_upto_if 68 with fail
                go_cut [] from 19 to 133 (fun wx => ∃ (dx : Array Int), Hid (RowU w g o n wx dx) ∧ Hid (Rest a b d a1 b1 dx))
                case first =>
                  cases cnd
                  · go_wp2_with fail
                    go_meet
                    case rel => exact ⟨dx1, HR, HT⟩
                  · go_wp2_with fail
                    refine (pins_u g o n cap a1 b1 dx1 wc HR.out.start (by omega) hb1n hn).mono ?_
                    rintro e w5 ⟨rfl, h5⟩
                    obtain ⟨pp1, pp2⟩ := partialInsertionSort_holds swo_ltInt dx1 a1 b1 (by omega) (by rw [HT.out.size]; have := HT.out.h3; have := HT.out.h4; omega) HT.out.ahd
                    replace HR := hidU (HR.out.trans h5)
                    have PP2 := hidU pp2
                    have PP1 := hidU pp1
                    clear h5 pp1 pp2
                    generalize Sort.partialInsertionSort ltInt dx1 a1 b1 = res at *
                    obtain ⟨dy, ok⟩ := res
                    cases ok
                    · replace HT := hidU (HT.out.shuf PP1.out)
                      go_wp2_with fail
                      go_meet
                      case rel => exact ⟨_, HR, HT⟩
                    · have HF := hidU (HT.out.done PP1.out (PP2.out rfl))
                      go_wp2_with fail
                      (try simp only [Exit.inBlock, Exit.then]); refine bodyPost_ret (results_none rfl _ _ _) rfl ?_
                      exact ⟨rfl, _, HR.out, HF.out.1, HF.out.2⟩
                case rest =>
                  clear HR HT
                  obtain ⟨dx, HR, HT⟩ := hcut
                  go_upto_region 17 with fail
                  by_cases ha0 : 0 < a1
                  · have x1 : a1 - 1 < n := by omega
                    have x2 : p < n := by omega
                    have haz : (0 : Int) < (a1 : Int) := by omega
                    obtain ⟨G, hG⟩ : ∃ G : Nat → Int, ∀ t, G t = dx[t]! := ⟨fun t => dx[t]!, fun _ => rfl⟩
                    have hcw : ∀ t, t < n → wc.cell? ⟨g, o + t, none⟩ = some (.int .u64 (G t)) := fun t ht => by rw [hG]; exact HR.out.cell t ht
                    have hfw : ∀ t, t < n → wc.frozen? ⟨g, o + t, none⟩ = false := HR.out.fz
                    have HG := hidU hG
                    clear hG
                    cases hl : ltInt (G (a1 - 1)) (G p)
                    · go_wp2_with fail
                      go_big_quiet (first | (go_at_call 36; refine Calls.quiet_of_same (less_u _ _ _)))
                      go_wp2_with fail
                      replace HR := hidU (HR.out.drewN nq)
                      have HL := hidU (show ltInt dx[a1 - 1]! dx[p]! = false from by rw [← HG.out, ← HG.out]; exact hl)
                      clear hcw hfw hl
                      generalize World.drewN _ nq = wq at *
                      clear nq
                      refine (partEq_u g o n cap a1 b1 p _ dx wq HR.out.start hp1 hp2 hb1n hn rfl).mono ?_
                      rintro e w6 ⟨mid, d6, rfl, h6, pe⟩
                      replace HR := hidU (HR.out.trans h6)
                      have m1 := pe.lo
                      have m2 := pe.hi
                      replace HT := hidU (HT.out.equal pe ha0 rfl HL.out)
                      clear h6 pe
                      go_wp2_with fail
                      go_roundw
                      case rel => exact ⟨mid, b1, lim, wb, wp, d6, by first | rfl | go_num, by first | rfl | go_num, rfl, rfl, rfl, by omega, by omega, HR, HT⟩
                      case measure => simp [intOf]; omega
                    · go_wp2_with fail
                      go_big_quiet (first | (go_at_call 36; refine Calls.quiet_of_same (less_u _ _ _)))
                      go_wp2_with fail
                      replace HR := hidU (HR.out.drewN nq)
                      clear hcw hfw hl
                      generalize World.drewN _ nq = wq at *
                      clear nq
                      refine (part_u g o n cap a1 b1 p dx wq HR.out.start hp1 hp2 hb1n hn).mono ?_
                      rintro e w6 ⟨mid, al, d6, rfl, h6, pt⟩
                      replace HR := hidU (HR.out.trans h6)
                      have PT := hidU pt
                      have m1 := pt.lo
                      have m2 := pt.hi
                      clear h6 pt
                      by_cases hlr : mid - a1 < b1 - mid
                      · have hlz : (mid : Int) - (a1 : Int) < (b1 : Int) - (mid : Int) := by omega
                        go_wp2_with fail
                        refine (HI.out g o n cap a1 mid lim d6 w6 (by omega) HR.out.start m1 (by omega) hn (by omega) (HT.out.ahdLeft PT.out)).mono ?_
                        rintro e w7 ⟨rfl, d7, h7, p7, s7⟩
                        replace HR := hidU (HR.out.trans h7)
                        replace HT := hidU (HT.out.left PT.out p7 s7)
                        clear h7 p7 s7 PT
                        go_wp2_with fail
                        go_roundw
                        case rel => exact ⟨(mid + 1), b1, lim, _, al, d7, by first | rfl | go_num, by first | rfl | go_num, rfl, rfl, rfl, by omega, by omega, HR, HT⟩
                        case measure => simp [intOf]; omega
                      · have hlz : ¬ ((mid : Int) - (a1 : Int) < (b1 : Int) - (mid : Int)) := by omega
                        have hmz : (mid : Int) + 1 = ((mid + 1 : Nat) : Int) := by omega
                        have HMZ := hidU hmz
                        clear hmz
                        go_wp2_with fail
                        rw [HMZ.out]
                        refine (HI.out g o n cap (mid + 1) b1 lim d6 w6 (by omega) HR.out.start (by omega) (by omega) hn (by omega) PT.out.ahdRight).mono ?_
                        rintro e w7 ⟨rfl, d7, h7, p7, s7⟩
                        replace HR := hidU (HR.out.trans h7)
                        replace HT := hidU (HT.out.right PT.out p7 s7)
                        clear h7 p7 s7 PT
                        go_wp2_with fail
                        go_roundw
                        case rel => exact ⟨a1, mid, lim, _, al, d7, by first | rfl | go_num, by first | rfl | go_num, rfl, rfl, rfl, by omega, by omega, HR, HT⟩
                        case measure => simp [intOf]; omega
                  · have haz : decide ((0 : Int) < (a1 : Int)) = false := decide_eq_false (by omega)
                    go_wp2_with fail
                    go_big_quiet (first | (go_at_call 36; refine Calls.quiet_of_same (less_u _ _ _)))
                    go_wp2_with fail
                    replace HR := hidU (HR.out.drewN nq)
                    generalize World.drewN _ nq = wq at *
                    clear nq
                    refine (part_u g o n cap a1 b1 p dx wq HR.out.start hp1 hp2 hb1n hn).mono ?_
                    rintro e w6 ⟨mid, al, d6, rfl, h6, pt⟩
                    replace HR := hidU (HR.out.trans h6)
                    have PT := hidU pt
                    have m1 := pt.lo
                    have m2 := pt.hi
                    clear h6 pt
                    by_cases hlr : mid - a1 < b1 - mid
                    · have hlz : (mid : Int) - (a1 : Int) < (b1 : Int) - (mid : Int) := by omega
                      go_wp2_with fail
                      refine (HI.out g o n cap a1 mid lim d6 w6 (by omega) HR.out.start m1 (by omega) hn (by omega) (HT.out.ahdLeft PT.out)).mono ?_
                      rintro e w7 ⟨rfl, d7, h7, p7, s7⟩
                      replace HR := hidU (HR.out.trans h7)
                      replace HT := hidU (HT.out.left PT.out p7 s7)
                      clear h7 p7 s7 PT
                      go_wp2_with fail
                      go_roundw
                      case rel => exact ⟨(mid + 1), b1, lim, _, al, d7, by first | rfl | go_num, by first | rfl | go_num, rfl, rfl, rfl, by omega, by omega, HR, HT⟩
                      case measure => simp [intOf]; omega
                    · have hlz : ¬ ((mid : Int) - (a1 : Int) < (b1 : Int) - (mid : Int)) := by omega
                      have hmz : (mid : Int) + 1 = ((mid + 1 : Nat) : Int) := by omega
                      have HMZ := hidU hmz
                      clear hmz
                      go_wp2_with fail
                      rw [HMZ.out]
                      refine (HI.out g o n cap (mid + 1) b1 lim d6 w6 (by omega) HR.out.start (by omega) (by omega) hn (by omega) PT.out.ahdRight).mono ?_
                      rintro e w7 ⟨rfl, d7, h7, p7, s7⟩
                      replace HR := hidU (HR.out.trans h7)
                      replace HT := hidU (HT.out.right PT.out p7 s7)
                      clear h7 p7 s7 PT
                      go_wp2_with fail
                      go_roundw
                      case rel => exact ⟨a1, mid, lim, _, al, d7, by first | rfl | go_num, by first | rfl | go_num, rfl, rfl, rfl, by omega, by omega, HR, HT⟩
                      case measure => simp [intOf]; omega
end Go.Proofs.Qxb6605873a
