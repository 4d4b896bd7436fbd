/-
  The library's sort at uint64: partitionOrdered (38).
-/
import Derived.Test.Qxb6605873aSrt4
namespace Go.Proofs.Qxb6605873a
open Go.RowKit Go.Sort
set_option linter.unusedSimpArgs false
set_option linter.unusedVariables false

set_option maxHeartbeats 16000000 in
set_option maxRecDepth 100000 in
theorem part_u (g o n cap a b pivot : Nat) (d : Array Int) (w : World) (h : RowU w g o n w d) (hap : a ≤ pivot) (hpb : pivot < b) (hb : b ≤ n) (hn : n ≤ 1048576) :
    Calls Try.prog 38 #[.slice (some ⟨g, o, none⟩) n cap, .int .i64 a, .int .i64 b, .int .i64 pivot] w fun e w' => ∃ (mid : Nat) (al : Bool) (d' : Array Int), e = .returned (.tuple #[.int .i64 mid, .bool al]) ∧ RowU w g o n w' d' ∧ Part a b d d' mid := by
  obtain ⟨p, hp⟩ : ∃ p, d[pivot]! = p := ⟨_, rfl⟩
  have HS0 : Hid (Scan (fun x => ltInt x p) p a b d (swp d a pivot) (a + 1) (b - 1)) := by rw [← hp]; exact Scan.start pivot hap hpb (by have := h.size; omega)
  have H0 := hidU h
  clear h hp
  go_enter Try.func38, Try.ntmps38
  have q1 : pivot < n := by omega
  have q2 : a < n := by omega
  obtain ⟨G, hG⟩ : ∃ G : Nat → Int, ∀ t, G t = d[t]! := ⟨fun t => d[t]!, fun _ => rfl⟩
  have hcw : ∀ t, t < n → w.cell? ⟨g, o + t, none⟩ = some (.int .u64 (G t)) := fun t ht => by rw [hG]; exact H0.out.cell t ht
  have hfw : ∀ t, t < n → w.frozen? ⟨g, o + t, none⟩ = false := H0.out.fz
  have HG := hidU hG
  clear hG
  have hmid := H0.out.mid a pivot q2 q1
  rw [← HG.out] at hmid
  go_wp2_with fail
  go_region
  have HR1 := hidU (H0.out.swapD a pivot q2 q1)
  rw [← HG.out, ← HG.out] at HR1
  clear hmid
  generalize World.drew _ = w1 at *
  clear hcw hfw
  go_wp2_with fail
  obtain ⟨j0, hj0⟩ : ∃ j0 : Nat, j0 = b - 1 := ⟨_, rfl⟩
  have hjz : (b : Int) - 1 = (j0 : Int) := by omega
  simp only [hjz]
  clear hjz
  rw [← hj0] at HS0
  clear hj0
  obtain ⟨d1, hd1⟩ : ∃ d1, d1 = swp d a pivot := ⟨_, rfl⟩
  rw [← hd1] at HS0 HR1
  clear hd1 HG
  go_loopw [10] (fun vi wr => ∃ (i : Nat), vi = .int .i64 i ∧ (a + 1) ≤ i ∧ i ≤ j0 + 1 ∧ Hid (RowU w g o n wr d1) ∧ Hid (Scan (fun x => ltInt x p) p a b d d1 i j0)) (fun vi _ => j0 + 1 - (intOf vi).toNat)
  case atStart => exact ⟨(a + 1), by first | rfl | go_num, Nat.le_refl _, HS0.out.ij, HR1, HS0⟩
  case round =>
    obtain ⟨i, rfl, hi0, hij1, HRu, HSu⟩ := hrel
    have ba := HSu.out.ai
    have bj := HSu.out.jb
    by_cases hu : i ≤ j0
    · have huz : (i : Int) ≤ (j0 : Int) := by omega
      have y1 : i < n := by omega
      have y2 : a < n := by omega
      obtain ⟨G, hG⟩ : ∃ G : Nat → Int, ∀ t, G t = d1[t]! := ⟨fun t => d1[t]!, fun _ => rfl⟩
      have hcw : ∀ t, t < n → wr.cell? ⟨g, o + t, none⟩ = some (.int .u64 (G t)) := fun t ht => by rw [hG]; exact HRu.out.cell t ht
      have hfw : ∀ t, t < n → wr.frozen? ⟨g, o + t, none⟩ = false := HRu.out.fz
      have HG := hidU hG
      clear hG
      cases hm : ltInt (G i) (G a)
      · have HX : Hid (i ≤ j0 → (fun x => ltInt x p) d1[i]! = false) := fun _ => by rw [← HG.out i]; have e := HSu.out.at_a; rw [← HG.out a] at e; simp only [← e, hm] <;> rfl
        go_wp2_with fail
        go_big_quiet (first | (go_at_call 36; refine Calls.quiet_of_same (less_u _ _ _)))
        go_wp2_with fail
        replace HRu := hidU (HRu.out.drewN nq)
        generalize World.drewN _ nq = wr4 at *
        clear nq hcw hfw hm HG
        go_loopw [11] (fun vj wr => ∃ (j : Nat), vj = .int .i64 j ∧ j ≤ j0 ∧ i ≤ j + 1 ∧ Hid (RowU w g o n wr d1) ∧ Hid (Scan (fun x => ltInt x p) p a b d d1 i j)) (fun vj _ => (intOf vj).toNat)
        case atStart => exact ⟨j0, rfl, Nat.le_refl _, hij1, HRu, HSu⟩
        case round =>
          obtain ⟨j, rfl, hjj, hij2, HRd, HSd⟩ := hrel
          have bi := HSd.out.ai
          by_cases hd : i ≤ j
          · have hdz : (i : Int) ≤ (j : Int) := by omega
            have x1 : j < n := by omega
            have x2 : a < n := by omega
            have x3 : i < n := by omega
            obtain ⟨G, hG⟩ : ∃ G : Nat → Int, ∀ t, G t = d1[t]! := ⟨fun t => d1[t]!, fun _ => rfl⟩
            have hcw : ∀ t, t < n → wr.cell? ⟨g, o + t, none⟩ = some (.int .u64 (G t)) := fun t ht => by rw [hG]; exact HRd.out.cell t ht
            have hfw : ∀ t, t < n → wr.frozen? ⟨g, o + t, none⟩ = false := HRd.out.fz
            have HG := hidU hG
            clear hG
            cases hm : ltInt (G j) (G a)
            · have HN : Hid ((fun x => ltInt x p) d1[j]! = false) := by show _ = _; rw [← HG.out j]; have e := HSd.out.at_a; rw [← HG.out a] at e; simp only [← e, hm] <;> rfl
              go_wp2_with fail
              go_big_quiet (first | (go_at_call 36; refine Calls.quiet_of_same (less_u _ _ _)))
              go_wp2_with fail
              go_roundw
              case rel => exact ⟨j - 1, by congr 1; omega, by omega, by omega, HRd.out.drewN _, HSd.out.down hd HN.out⟩
              case measure => simp [intOf] <;> omega
            · have HN : Hid ((fun x => ltInt x p) d1[j]! = true) := by show _ = _; rw [← HG.out j]; have e := HSd.out.at_a; rw [← HG.out a] at e; simp only [← e, hm] <;> rfl
              have hlt := HSd.out.lt hd (HX.out (by omega)) HN.out
              have HSW := hidU (HSd.out.swap hd (HX.out (by omega)) HN.out)
              have hdz2 : ¬ ((j : Int) < (i : Int)) := by omega
              go_wp2_with fail
              go_big_quiet (first | (go_at_call 36; refine Calls.quiet_of_same (less_u _ _ _)))
              go_wp2_with fail
              replace HRd : Hid (RowU w g o n (wr.drewN nq) d1) := HRd.out.drewN nq
              replace hcw : ∀ t, t < n → (wr.drewN nq).cell? ⟨g, o + t, none⟩ = some (.int .u64 (G t)) := hcw
              replace hfw : ∀ t, t < n → (wr.drewN nq).frozen? ⟨g, o + t, none⟩ = false := hfw
              generalize wr.drewN nq = wr5 at *
              clear nq
              go_region
              have HR2 := hidU (HRd.out.swapD i j x3 x1)
              rw [← HG.out, ← HG.out] at HR2
              generalize World.drew _ = wr6 at *
              clear hcw hfw HRd HRu HSu HSd HX HN hm HG
              go_wp2_with fail
              generalize decide (j < i) = bb
              generalize hzi : (i : Int) = zi
              generalize hzj : (j : Int) = zj
              have HZI := hidU hzi
              have HZJ := hidU hzj
              clear hzi hzj
              go_loopw [10, 11] (fun vi vj wr => ∃ (i j : Nat) (dk : Array Int), vi = .int .i64 i ∧ vj = .int .i64 j ∧ Hid (RowU w g o n wr dk) ∧ Hid (Scan (fun x => ltInt x p) p a b d dk i j)) (fun vi vj _ => (intOf vj + 1 - intOf vi).toNat)
              case atStart => exact ⟨i + 1, j - 1, _, by rw [← HZI.out]; go_num, by rw [← HZJ.out]; congr 1; omega, HR2, HSW⟩
              case round =>
                clear HR2 HSW HZI HZJ
                obtain ⟨i1, j1, dk, rfl, rfl, HRo, HSo⟩ := hrel
                clear hlt hd hdz hdz2 hij1 hij2 hjj bi ba bj hu huz y1 x1 x2 x3
                go_wp2_with fail
                go_loopw [10] (fun vi wr => ∃ (i : Nat), vi = .int .i64 i ∧ i1 ≤ i ∧ i ≤ j1 + 1 ∧ Hid (RowU w g o n wr dk) ∧ Hid (Scan (fun x => ltInt x p) p a b d dk i j1)) (fun vi _ => j1 + 1 - (intOf vi).toNat)
                case atStart => exact ⟨i1, by first | rfl | go_num, Nat.le_refl _, HSo.out.ij, HRo, HSo⟩
                case round =>
                  obtain ⟨i, rfl, hi0, hij1, HRu, HSu⟩ := hrel
                  have ba := HSu.out.ai
                  have bj := HSu.out.jb
                  by_cases hu : i ≤ j1
                  · have huz : (i : Int) ≤ (j1 : Int) := by omega
                    have y1 : i < n := by omega
                    have y2 : a < n := by omega
                    obtain ⟨G, hG⟩ : ∃ G : Nat → Int, ∀ t, G t = dk[t]! := ⟨fun t => dk[t]!, fun _ => rfl⟩
                    have hcw : ∀ t, t < n → wr.cell? ⟨g, o + t, none⟩ = some (.int .u64 (G t)) := fun t ht => by rw [hG]; exact HRu.out.cell t ht
                    have hfw : ∀ t, t < n → wr.frozen? ⟨g, o + t, none⟩ = false := HRu.out.fz
                    have HG := hidU hG
                    clear hG
                    cases hm : ltInt (G i) (G a)
                    · have HX : Hid (i ≤ j1 → (fun x => ltInt x p) dk[i]! = false) := fun _ => by rw [← HG.out i]; have e := HSu.out.at_a; rw [← HG.out a] at e; simp only [← e, hm] <;> rfl
                      go_wp2_with fail
                      go_big_quiet (first | (go_at_call 36; refine Calls.quiet_of_same (less_u _ _ _)))
                      go_wp2_with fail
                      replace HRu := hidU (HRu.out.drewN nq)
                      generalize World.drewN _ nq = wr4 at *
                      clear nq hcw hfw hm HG
                      go_loopw [11] (fun vj wr => ∃ (j : Nat), vj = .int .i64 j ∧ j ≤ j1 ∧ i ≤ j + 1 ∧ Hid (RowU w g o n wr dk) ∧ Hid (Scan (fun x => ltInt x p) p a b d dk i j)) (fun vj _ => (intOf vj).toNat)
                      case atStart => exact ⟨j1, rfl, Nat.le_refl _, hij1, HRu, HSu⟩
                      case round =>
                        obtain ⟨j, rfl, hjj, hij2, HRd, HSd⟩ := hrel
                        have bi := HSd.out.ai
                        by_cases hd : i ≤ j
                        · have hdz : (i : Int) ≤ (j : Int) := by omega
                          have x1 : j < n := by omega
                          have x2 : a < n := by omega
                          have x3 : i < n := by omega
                          obtain ⟨G, hG⟩ : ∃ G : Nat → Int, ∀ t, G t = dk[t]! := ⟨fun t => dk[t]!, fun _ => rfl⟩
                          have hcw : ∀ t, t < n → wr.cell? ⟨g, o + t, none⟩ = some (.int .u64 (G t)) := fun t ht => by rw [hG]; exact HRd.out.cell t ht
                          have hfw : ∀ t, t < n → wr.frozen? ⟨g, o + t, none⟩ = false := HRd.out.fz
                          have HG := hidU hG
                          clear hG
                          cases hm : ltInt (G j) (G a)
                          · have HN : Hid ((fun x => ltInt x p) dk[j]! = false) := by show _ = _; rw [← HG.out j]; have e := HSd.out.at_a; rw [← HG.out a] at e; simp only [← e, hm] <;> rfl
                            go_wp2_with fail
                            go_big_quiet (first | (go_at_call 36; refine Calls.quiet_of_same (less_u _ _ _)))
                            go_wp2_with fail
                            go_roundw
                            case rel => exact ⟨j - 1, by congr 1; omega, by omega, by omega, HRd.out.drewN _, HSd.out.down hd HN.out⟩
                            case measure => simp [intOf] <;> omega
                          · have HN : Hid ((fun x => ltInt x p) dk[j]! = true) := by show _ = _; rw [← HG.out j]; have e := HSd.out.at_a; rw [← HG.out a] at e; simp only [← e, hm] <;> rfl
                            have hlt := HSd.out.lt hd (HX.out (by omega)) HN.out
                            have HSW := hidU (HSd.out.swap hd (HX.out (by omega)) HN.out)
                            have hdz2 : ¬ ((j : Int) < (i : Int)) := by omega
                            go_wp2_with fail
                            go_big_quiet (first | (go_at_call 36; refine Calls.quiet_of_same (less_u _ _ _)))
                            go_wp2_with fail
                            replace HRd : Hid (RowU w g o n (wr.drewN nq) dk) := HRd.out.drewN nq
                            replace hcw : ∀ t, t < n → (wr.drewN nq).cell? ⟨g, o + t, none⟩ = some (.int .u64 (G t)) := hcw
                            replace hfw : ∀ t, t < n → (wr.drewN nq).frozen? ⟨g, o + t, none⟩ = false := hfw
                            generalize wr.drewN nq = wr5 at *
                            clear nq
                            go_region
                            all_goals go_wp2_with fail
                            go_roundw
                            case rel =>
                              refine ⟨i + 1, j - 1, swp dk i j, by go_num, by congr 1; omega, ?_, HSW⟩
                              rw [HG.out, HG.out]; exact HRd.out.swapD i j x3 x1
                            case measure => simp [intOf] <;> omega
                        · have hdz : decide ((i : Int) ≤ (j : Int)) = false := decide_eq_false (by omega)
                          have hdz2 : (j : Int) < (i : Int) := by omega
                          go_wp2_with fail
                          go_big_quiet (first | (go_at_call 36; refine Calls.quiet_of_same (less_u _ _ _)))
                          go_wp2_with fail
                          replace HRd := hidU (HRd.out.drewN nq)
                          generalize World.drewN _ nq = wr5 at *
                          clear nq
                          clear hdz
                          have z1 : j < n := by omega
                          have z2 : a < n := by omega
                          obtain ⟨G, hG⟩ : ∃ G : Nat → Int, ∀ t, G t = dk[t]! := ⟨fun t => dk[t]!, fun _ => rfl⟩
                          have hcw9 : ∀ t, t < n → wr5.cell? ⟨g, o + t, none⟩ = some (.int .u64 (G t)) := fun t ht => by rw [hG]; exact HRd.out.cell t ht
                          have hfw9 : ∀ t, t < n → wr5.frozen? ⟨g, o + t, none⟩ = false := HRd.out.fz
                          have HG := hidU hG
                          clear hG
                          have hmid := HRd.out.mid j a z1 z2
                          rw [← HG.out] at hmid
                          go_region
                          have HR9 := hidU (HRd.out.swapD j a z1 z2)
                          rw [← HG.out, ← HG.out] at HR9
                          clear hmid
                          generalize World.drew _ = wr9 at *
                          go_wp2_with fail
                          go_ret2
                          exact ⟨j, false, _, rfl, HR9.out, HSd.out.partEnd (by omega)⟩
                    · have HN : Hid ((fun x => ltInt x p) dk[i]! = true) := by show _ = _; rw [← HG.out i]; have e := HSu.out.at_a; rw [← HG.out a] at e; simp only [← e, hm] <;> rfl
                      go_wp2_with fail
                      go_big_quiet (first | (go_at_call 36; refine Calls.quiet_of_same (less_u _ _ _)))
                      go_wp2_with fail
                      go_roundw
                      case rel => exact ⟨i + 1, by go_num, by omega, by omega, HRu.out.drewN _, HSu.out.up hu HN.out⟩
                      case measure => simp [intOf] <;> omega
                  · have huz : decide ((i : Int) ≤ (j1 : Int)) = false := decide_eq_false (by omega)
                    have HX : Hid (i ≤ j1 → (fun x => ltInt x p) dk[i]! = false) := fun h => absurd h hu
                    go_wp2_with fail
                    go_big_quiet (first | (go_at_call 36; refine Calls.quiet_of_same (less_u _ _ _)))
                    go_wp2_with fail
                    replace HRu := hidU (HRu.out.drewN nq)
                    generalize World.drewN _ nq = wr4 at *
                    clear nq
                    go_loopw [11] (fun vj wr => ∃ (j : Nat), vj = .int .i64 j ∧ j ≤ j1 ∧ i ≤ j + 1 ∧ Hid (RowU w g o n wr dk) ∧ Hid (Scan (fun x => ltInt x p) p a b d dk i j)) (fun vj _ => (intOf vj).toNat)
                    case atStart => exact ⟨j1, rfl, Nat.le_refl _, hij1, HRu, HSu⟩
                    case round =>
                      obtain ⟨j, rfl, hjj, hij2, HRd, HSd⟩ := hrel
                      have bi := HSd.out.ai
                      by_cases hd : i ≤ j
                      · have hdz : (i : Int) ≤ (j : Int) := by omega
                        exfalso; omega
                      · have hdz : decide ((i : Int) ≤ (j : Int)) = false := decide_eq_false (by omega)
                        have hdz2 : (j : Int) < (i : Int) := by omega
                        go_wp2_with fail
                        go_big_quiet (first | (go_at_call 36; refine Calls.quiet_of_same (less_u _ _ _)))
                        go_wp2_with fail
                        replace HRd := hidU (HRd.out.drewN nq)
                        generalize World.drewN _ nq = wr5 at *
                        clear nq
                        clear hdz
                        have z1 : j < n := by omega
                        have z2 : a < n := by omega
                        obtain ⟨G, hG⟩ : ∃ G : Nat → Int, ∀ t, G t = dk[t]! := ⟨fun t => dk[t]!, fun _ => rfl⟩
                        have hcw9 : ∀ t, t < n → wr5.cell? ⟨g, o + t, none⟩ = some (.int .u64 (G t)) := fun t ht => by rw [hG]; exact HRd.out.cell t ht
                        have hfw9 : ∀ t, t < n → wr5.frozen? ⟨g, o + t, none⟩ = false := HRd.out.fz
                        have HG := hidU hG
                        clear hG
                        have hmid := HRd.out.mid j a z1 z2
                        rw [← HG.out] at hmid
                        go_region
                        have HR9 := hidU (HRd.out.swapD j a z1 z2)
                        rw [← HG.out, ← HG.out] at HR9
                        clear hmid
                        generalize World.drew _ = wr9 at *
                        go_wp2_with fail
                        go_ret2
                        exact ⟨j, false, _, rfl, HR9.out, HSd.out.partEnd (by omega)⟩
          · have hdz : decide ((i : Int) ≤ (j : Int)) = false := decide_eq_false (by omega)
            have hdz2 : (j : Int) < (i : Int) := by omega
            go_wp2_with fail
            go_big_quiet (first | (go_at_call 36; refine Calls.quiet_of_same (less_u _ _ _)))
            go_wp2_with fail
            replace HRd := hidU (HRd.out.drewN nq)
            generalize World.drewN _ nq = wr5 at *
            clear nq
            clear hdz
            have z1 : j < n := by omega
            have z2 : a < n := by omega
            obtain ⟨G, hG⟩ : ∃ G : Nat → Int, ∀ t, G t = d1[t]! := ⟨fun t => d1[t]!, fun _ => rfl⟩
            have hcw9 : ∀ t, t < n → wr5.cell? ⟨g, o + t, none⟩ = some (.int .u64 (G t)) := fun t ht => by rw [hG]; exact HRd.out.cell t ht
            have hfw9 : ∀ t, t < n → wr5.frozen? ⟨g, o + t, none⟩ = false := HRd.out.fz
            have HG := hidU hG
            clear hG
            have hmid := HRd.out.mid j a z1 z2
            rw [← HG.out] at hmid
            go_region
            have HR9 := hidU (HRd.out.swapD j a z1 z2)
            rw [← HG.out, ← HG.out] at HR9
            clear hmid
            generalize World.drew _ = wr9 at *
            go_wp2_with fail
            go_ret2
            exact ⟨j, true, _, rfl, HR9.out, HSd.out.partEnd (by omega)⟩
      · have HN : Hid ((fun x => ltInt x p) d1[i]! = true) := by show _ = _; rw [← HG.out i]; have e := HSu.out.at_a; rw [← HG.out a] at e; simp only [← e, hm] <;> rfl
        go_wp2_with fail
        go_big_quiet (first | (go_at_call 36; refine Calls.quiet_of_same (less_u _ _ _)))
        go_wp2_with fail
        go_roundw
        case rel => exact ⟨i + 1, by go_num, by omega, by omega, HRu.out.drewN _, HSu.out.up hu HN.out⟩
        case measure => simp [intOf] <;> omega
    · have huz : decide ((i : Int) ≤ (j0 : Int)) = false := decide_eq_false (by omega)
      have HX : Hid (i ≤ j0 → (fun x => ltInt x p) d1[i]! = false) := fun h => absurd h hu
      go_wp2_with fail
      go_big_quiet (first | (go_at_call 36; refine Calls.quiet_of_same (less_u _ _ _)))
      go_wp2_with fail
      replace HRu := hidU (HRu.out.drewN nq)
      generalize World.drewN _ nq = wr4 at *
      clear nq
      go_loopw [11] (fun vj wr => ∃ (j : Nat), vj = .int .i64 j ∧ j ≤ j0 ∧ i ≤ j + 1 ∧ Hid (RowU w g o n wr d1) ∧ Hid (Scan (fun x => ltInt x p) p a b d d1 i j)) (fun vj _ => (intOf vj).toNat)
      case atStart => exact ⟨j0, rfl, Nat.le_refl _, hij1, HRu, HSu⟩
      case round =>
        obtain ⟨j, rfl, hjj, hij2, HRd, HSd⟩ := hrel
        have bi := HSd.out.ai
        by_cases hd : i ≤ j
        · have hdz : (i : Int) ≤ (j : Int) := by omega
          exfalso; omega
        · have hdz : decide ((i : Int) ≤ (j : Int)) = false := decide_eq_false (by omega)
          have hdz2 : (j : Int) < (i : Int) := by omega
          go_wp2_with fail
          go_big_quiet (first | (go_at_call 36; refine Calls.quiet_of_same (less_u _ _ _)))
          go_wp2_with fail
          replace HRd := hidU (HRd.out.drewN nq)
          generalize World.drewN _ nq = wr5 at *
          clear nq
          clear hdz
          have z1 : j < n := by omega
          have z2 : a < n := by omega
          obtain ⟨G, hG⟩ : ∃ G : Nat → Int, ∀ t, G t = d1[t]! := ⟨fun t => d1[t]!, fun _ => rfl⟩
          have hcw9 : ∀ t, t < n → wr5.cell? ⟨g, o + t, none⟩ = some (.int .u64 (G t)) := fun t ht => by rw [hG]; exact HRd.out.cell t ht
          have hfw9 : ∀ t, t < n → wr5.frozen? ⟨g, o + t, none⟩ = false := HRd.out.fz
          have HG := hidU hG
          clear hG
          have hmid := HRd.out.mid j a z1 z2
          rw [← HG.out] at hmid
          go_region
          have HR9 := hidU (HRd.out.swapD j a z1 z2)
          rw [← HG.out, ← HG.out] at HR9
          clear hmid
          generalize World.drew _ = wr9 at *
          go_wp2_with fail
          go_ret2
          exact ⟨j, true, _, rfl, HR9.out, HSd.out.partEnd (by omega)⟩
end Go.Proofs.Qxb6605873a
