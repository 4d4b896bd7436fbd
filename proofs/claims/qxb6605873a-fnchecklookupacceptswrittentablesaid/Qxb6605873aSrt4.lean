/-
  The library's sort at uint64: partitionEqualOrdered (37), partitionOrdered (38): what they do, said as a relation.
-/
import Derived.Test.Qxb6605873aSrt2
import Derived.Deep.Cut
namespace Go.Proofs.Qxb6605873a
open Go.RowKit Go.Sort
set_option linter.unusedSimpArgs false
set_option linter.unusedVariables false

theorem RowU.mid {w0 w : World} {g o n : Nat} {d : Array Int} (h : RowU w0 g o n w d) (i j : Nat) (hi : i < n) (hj : j < n) : (w.setCell ⟨g, o + i, none⟩ (.int .u64 d[j]!)).cell? ⟨g, o + j, none⟩ = some (.int .u64 d[j]!) := by
  by_cases e : i = j
  · subst e
    exact World.cell?_setCell_same' w _ _ (by rw [h.cell i hi]; rfl)
  · rw [World.cell?_setCell_other _ _ _ _ (fun h => e (by injection h; omega)), h.cell j hj]

/-- THE TWO SCANS' INVARIANT: L holds of what lies strictly between a and i, not of what lies behind j; p lies at a. -/
structure Scan (L : Int → Bool) (p : Int) (a b : Nat) (d dk : Array Int) (i j : Nat) : Prop where
  perm : PermIn a b d dk
  at_a : dk[a]! = p
  left : ∀ t, a < t → t < i → L dk[t]! = true
  right : ∀ t, j < t → t < b → L dk[t]! = false
  ai : a < i
  ij : i ≤ j + 1
  jb : j < b
  bs : b ≤ d.size

section
variable {L : Int → Bool} {p : Int} {a b : Nat} {d dk : Array Int} {i j : Nat}
theorem Scan.start (pivot : Nat) (h1 : a ≤ pivot) (h2 : pivot < b) (hb : b ≤ d.size) : Scan L d[pivot]! a b d (swp d a pivot) (a + 1) (b - 1) where
  perm := swp_permIn _ _ _ _ _ (Nat.le_refl _) (by omega) h1 h2 hb
  at_a := by
    by_cases e : a = pivot
    · subst e; exact swp_right d a a (by omega)
    · exact swp_left d a pivot (by omega) e
  left := fun t h h' => by omega
  right := fun t h h' => by omega
  ai := by omega
  ij := by omega
  jb := by omega
  bs := hb
theorem Scan.up (h : Scan L p a b d dk i j) (hij : i ≤ j) (hl : L dk[i]! = true) : Scan L p a b d dk (i + 1) j where
  perm := h.perm
  at_a := h.at_a
  left := fun t h1 h2 => by
    rcases Nat.lt_or_ge t i with h3 | h3
    · exact h.left t h1 h3
    · obtain rfl : t = i := by omega
      exact hl
  right := h.right
  ai := by have := h.ai; omega
  ij := by omega
  jb := h.jb
  bs := h.bs
theorem Scan.down (h : Scan L p a b d dk i j) (hij : i ≤ j) (hl : L dk[j]! = false) : Scan L p a b d dk i (j - 1) where
  perm := h.perm
  at_a := h.at_a
  left := h.left
  right := fun t h1 h2 => by
    rcases Nat.lt_or_ge j t with h3 | h3
    · exact h.right t h3 h2
    · obtain rfl : t = j := by have := h.ai; omega
      exact hl
  ai := h.ai
  ij := by have := h.ai; omega
  jb := by have := h.jb; omega
  bs := h.bs
theorem Scan.lt (h : Scan L p a b d dk i j) (hij : i ≤ j) (h1 : L dk[i]! = false) (h2 : L dk[j]! = true) : i < j := by
  rcases Nat.lt_or_ge i j with h3 | h3
  · exact h3
  · obtain rfl : i = j := by omega
    rw [h1] at h2; cases h2
theorem Scan.swap (h : Scan L p a b d dk i j) (hij : i ≤ j) (h1 : L dk[i]! = false) (h2 : L dk[j]! = true) : Scan L p a b d (swp dk i j) (i + 1) (j - 1) := by
  have hlt := h.lt hij h1 h2
  have hs : dk.size = d.size := h.perm.1
  have := h.ai; have := h.jb; have := h.bs
  refine ⟨permIn_trans _ _ _ _ _ h.perm (swp_permIn _ _ _ _ _ (by omega) (by omega) (by omega) (by omega) (by omega)), ?_, ?_, ?_, by omega, by omega, by omega, h.bs⟩
  · rw [swp_other dk i j a (by omega) (by omega)]; exact h.at_a
  · intro t ht1 ht2
    rcases Nat.lt_or_ge t i with h3 | h3
    · rw [swp_other dk i j t (by omega) (by omega)]; exact h.left t ht1 h3
    · obtain rfl : t = i := by omega
      rw [swp_left dk t j (by omega) (by omega)]; exact h2
  · intro t ht1 ht2
    rcases Nat.lt_or_ge j t with h3 | h3
    · rw [swp_other dk i j t (by omega) (by omega)]; exact h.right t h3 ht2
    · obtain rfl : t = j := by omega
      rw [swp_right dk i t (by omega)]; exact h1
end

/-- WHAT partitionEqualOrdered LEAVES. -/
structure PartEq (a b : Nat) (p : Int) (d d' : Array Int) (mid : Nat) : Prop where
  perm : PermIn a b d d'
  lo : a < mid
  hi : mid ≤ b
  left : ∀ t, a ≤ t → t < mid → ltInt p d'[t]! = false
  right : ∀ t, mid ≤ t → t < b → ltInt p d'[t]! = true
theorem Scan.eqEnd {p : Int} {a b : Nat} {d dk : Array Int} {i j : Nat} (h : Scan (fun x => !ltInt p x) p a b d dk i j) (hij : j < i) : PartEq a b p d dk i := by
  have := h.ai; have := h.ij; have := h.jb
  refine ⟨h.perm, h.ai, by omega, ?_, ?_⟩
  · intro t h1 h2
    rcases Nat.lt_or_ge a t with h3 | h3
    · have := h.left t h3 h2; simpa using this
    · obtain rfl : t = a := by omega
      rw [h.at_a]; simp [ltInt]
  · intro t h1 h2
    have := h.right t (by omega) h2; simpa using this

/-- WHAT partitionOrdered LEAVES. -/
structure Part (a b : Nat) (d d' : Array Int) (mid : Nat) : Prop where
  perm : PermIn a b d d'
  lo : a ≤ mid
  hi : mid < b
  left : ∀ t, a ≤ t → t < mid → ltInt d'[t]! d'[mid]! = true
  right : ∀ t, mid < t → t < b → ltInt d'[t]! d'[mid]! = false
theorem Scan.partEnd {p : Int} {a b : Nat} {d dk : Array Int} {i j : Nat} (h : Scan (fun x => ltInt x p) p a b d dk i j) (hij : j < i) : Part a b d (swp dk j a) j := by
  have := h.ai; have := h.ij; have := h.jb; have := h.bs
  have hs : dk.size = d.size := h.perm.1
  have e : (swp dk j a)[j]! = p := by
    by_cases e : j = a
    · subst e; rw [swp_right dk j j (by omega)]; exact h.at_a
    · rw [swp_left dk j a (by omega) e]; exact h.at_a
  refine ⟨permIn_trans _ _ _ _ _ h.perm (swp_permIn _ _ _ _ _ (by omega) (by omega) (Nat.le_refl _) (by omega) (by omega)), by omega, by omega, ?_, ?_⟩
  · intro t h1 h2
    rw [e]
    rcases Nat.lt_or_ge a t with h3 | h3
    · rw [swp_other dk j a t (by omega) (by omega)]; exact h.left t h3 (by omega)
    · obtain rfl : t = a := by omega
      rw [swp_right dk j t (by omega)]; exact h.left j (by omega) (by omega)
  · intro t h1 h2
    rw [e, swp_other dk j a t (by omega) (by omega)]; exact h.right t h1 h2

set_option maxHeartbeats 8000000 in
set_option maxRecDepth 100000 in
theorem partEq_u (g o n cap a b pivot : Nat) (p : Int) (d : Array Int) (w : World) (h : RowU w g o n w d) (hap : a ≤ pivot) (hpb : pivot < b) (hb : b ≤ n) (hn : n ≤ 1048576) (hp : d[pivot]! = p) :
    Calls Try.prog 37 #[.slice (some ⟨g, o, none⟩) n cap, .int .i64 a, .int .i64 b, .int .i64 pivot] w fun e w' => ∃ (mid : Nat) (d' : Array Int), e = .returned (.int .i64 mid) ∧ RowU w g o n w' d' ∧ PartEq a b p d d' mid := by
  have HS0 : Hid (Scan (fun x => !ltInt p x) p a b d (swp d a pivot) (a + 1) (b - 1)) := by rw [← hp]; exact Scan.start pivot hap hpb (by have := h.size; omega)
  have H0 := hidU h
  clear h hp
  go_enter Try.func37, Try.ntmps37
  have q1 : pivot < n := by omega
  have q2 : a < n := by omega
  obtain ⟨G, hG⟩ : ∃ G : Nat → Int, ∀ t, G t = d[t]! := ⟨fun t => d[t]!, fun _ => rfl⟩
  have hcw : ∀ t, t < n → w.cell? ⟨g, o + t, none⟩ = some (.int .u64 (G t)) := fun t ht => by rw [hG]; exact H0.out.cell t ht
  have hfw : ∀ t, t < n → w.frozen? ⟨g, o + t, none⟩ = false := H0.out.fz
  have HG := hidU hG
  clear hG
  have hmid := H0.out.mid a pivot q2 q1
  rw [← HG.out] at hmid
  go_wp2_with fail
  go_region
  have HR1 := hidU (H0.out.swapD a pivot q2 q1)
  rw [← HG.out, ← HG.out] at HR1
  clear hmid
  generalize World.drew _ = w1 at *
  clear hcw hfw
  go_wp2_with fail
  go_loopw [9, 10] (fun vi vj wr => ∃ (i j : Nat) (dk : Array Int), vi = .int .i64 i ∧ vj = .int .i64 j ∧ Hid (RowU w g o n wr dk) ∧ Hid (Scan (fun x => !ltInt p x) p a b d dk i j)) (fun vi vj _ => (intOf vj + 1 - intOf vi).toNat)
  case atStart => exact ⟨a + 1, b - 1, _, by go_num, by congr 1; omega, HR1, HS0⟩
  case round =>
    obtain ⟨i0, j0, dk, rfl, rfl, HRo, HSo⟩ := hrel
    go_wp2_with fail
    go_loopw [9] (fun vi wr => ∃ (i : Nat), vi = .int .i64 i ∧ i0 ≤ i ∧ i ≤ j0 + 1 ∧ Hid (RowU w g o n wr dk) ∧ Hid (Scan (fun x => !ltInt p x) p a b d dk i j0)) (fun vi _ => j0 + 1 - (intOf vi).toNat)
    case atStart => exact ⟨i0, by first | rfl | go_num, Nat.le_refl _, HSo.out.ij, HRo, HSo⟩
    case round =>
      obtain ⟨i, rfl, hi0, hij1, HRu, HSu⟩ := hrel
      have ba := HSu.out.ai
      have bj := HSu.out.jb
      by_cases hu : i ≤ j0
      · have huz : (i : Int) ≤ (j0 : Int) := by omega
        have y1 : i < n := by omega
        have y2 : a < n := by omega
        obtain ⟨G, hG⟩ : ∃ G : Nat → Int, ∀ t, G t = dk[t]! := ⟨fun t => dk[t]!, fun _ => rfl⟩
        have hcw : ∀ t, t < n → wr.cell? ⟨g, o + t, none⟩ = some (.int .u64 (G t)) := fun t ht => by rw [hG]; exact HRu.out.cell t ht
        have hfw : ∀ t, t < n → wr.frozen? ⟨g, o + t, none⟩ = false := HRu.out.fz
        have HG := hidU hG
        clear hG
        cases hm : ltInt (G a) (G i)
        · have HN : Hid ((fun x => !ltInt p x) dk[i]! = true) := by show _ = _; rw [← HG.out i]; have e := HSu.out.at_a; rw [← HG.out a] at e; simp only [← e, hm] <;> rfl
          go_wp2_with fail
          go_big_quiet (first | (go_at_call 36; refine Calls.quiet_of_same (less_u _ _ _)))
          go_wp2_with fail
          go_roundw
          case rel => exact ⟨i + 1, by go_num, by omega, by omega, HRu.out.drewN _, HSu.out.up hu HN.out⟩
          case measure => simp [intOf] <;> omega
        · have HX : Hid (i ≤ j0 → (fun x => !ltInt p x) dk[i]! = false) := fun _ => by rw [← HG.out i]; have e := HSu.out.at_a; rw [← HG.out a] at e; simp only [← e, hm] <;> rfl
          go_wp2_with fail
          go_big_quiet (first | (go_at_call 36; refine Calls.quiet_of_same (less_u _ _ _)))
          go_wp2_with fail
          replace HRu := hidU (HRu.out.drewN nq)
          generalize World.drewN _ nq = wr4 at *
          clear nq hcw hfw hm HG
          go_loopw [10] (fun vj wr => ∃ (j : Nat), vj = .int .i64 j ∧ j ≤ j0 ∧ i ≤ j + 1 ∧ Hid (RowU w g o n wr dk) ∧ Hid (Scan (fun x => !ltInt p x) p a b d dk i j)) (fun vj _ => (intOf vj).toNat)
          case atStart => exact ⟨j0, rfl, Nat.le_refl _, hij1, HRu, HSu⟩
          case round =>
            obtain ⟨j, rfl, hjj, hij2, HRd, HSd⟩ := hrel
            have bi := HSd.out.ai
            by_cases hd : i ≤ j
            · have hdz : (i : Int) ≤ (j : Int) := by omega
              have x1 : j < n := by omega
              have x2 : a < n := by omega
              have x3 : i < n := by omega
              obtain ⟨G, hG⟩ : ∃ G : Nat → Int, ∀ t, G t = dk[t]! := ⟨fun t => dk[t]!, fun _ => rfl⟩
              have hcw : ∀ t, t < n → wr.cell? ⟨g, o + t, none⟩ = some (.int .u64 (G t)) := fun t ht => by rw [hG]; exact HRd.out.cell t ht
              have hfw : ∀ t, t < n → wr.frozen? ⟨g, o + t, none⟩ = false := HRd.out.fz
              have HG := hidU hG
              clear hG
              cases hm : ltInt (G a) (G j)
              · have HN : Hid ((fun x => !ltInt p x) dk[j]! = true) := by show _ = _; rw [← HG.out j]; have e := HSd.out.at_a; rw [← HG.out a] at e; simp only [← e, hm] <;> rfl
                have hlt := HSd.out.lt hd (HX.out (by omega)) HN.out
                have HSW := hidU (HSd.out.swap hd (HX.out (by omega)) HN.out)
                have hdz2 : ¬ ((j : Int) < (i : Int)) := by omega
                go_wp2_with fail
                go_big_quiet (first | (go_at_call 36; refine Calls.quiet_of_same (less_u _ _ _)))
                go_wp2_with fail
                replace HRd : Hid (RowU w g o n (wr.drewN nq) dk) := HRd.out.drewN nq
                replace hcw : ∀ t, t < n → (wr.drewN nq).cell? ⟨g, o + t, none⟩ = some (.int .u64 (G t)) := hcw
                replace hfw : ∀ t, t < n → (wr.drewN nq).frozen? ⟨g, o + t, none⟩ = false := hfw
                generalize wr.drewN nq = wr5 at *
                clear nq
                go_region
                all_goals go_wp2_with fail
                go_roundw
                case rel =>
                  refine ⟨i + 1, j - 1, swp dk i j, by go_num, by congr 1; omega, ?_, HSW⟩
                  rw [HG.out, HG.out]; exact HRd.out.swapD i j x3 x1
                case measure => simp [intOf] <;> omega
              · have HN : Hid ((fun x => !ltInt p x) dk[j]! = false) := by show _ = _; rw [← HG.out j]; have e := HSd.out.at_a; rw [← HG.out a] at e; simp only [← e, hm] <;> rfl
                go_wp2_with fail
                go_big_quiet (first | (go_at_call 36; refine Calls.quiet_of_same (less_u _ _ _)))
                go_wp2_with fail
                go_roundw
                case rel => exact ⟨j - 1, by congr 1; omega, by omega, by omega, HRd.out.drewN _, HSd.out.down hd HN.out⟩
                case measure => simp [intOf] <;> omega
            · have hdz : decide ((i : Int) ≤ (j : Int)) = false := decide_eq_false (by omega)
              have hdz2 : (j : Int) < (i : Int) := by omega
              go_wp2_with fail
              go_big_quiet (first | (go_at_call 36; refine Calls.quiet_of_same (less_u _ _ _)))
              go_wp2_with fail
              replace HRd := hidU (HRd.out.drewN nq)
              generalize World.drewN _ nq = wr5 at *
              clear nq
              go_ret
              exact ⟨i, dk, rfl, HRd.out, HSd.out.eqEnd (by omega)⟩
      · have huz : decide ((i : Int) ≤ (j0 : Int)) = false := decide_eq_false (by omega)
        have HX : Hid (i ≤ j0 → (fun x => !ltInt p x) dk[i]! = false) := fun h => absurd h hu
        go_wp2_with fail
        go_big_quiet (first | (go_at_call 36; refine Calls.quiet_of_same (less_u _ _ _)))
        go_wp2_with fail
        replace HRu := hidU (HRu.out.drewN nq)
        generalize World.drewN _ nq = wr4 at *
        clear nq
        go_loopw [10] (fun vj wr => ∃ (j : Nat), vj = .int .i64 j ∧ j ≤ j0 ∧ i ≤ j + 1 ∧ Hid (RowU w g o n wr dk) ∧ Hid (Scan (fun x => !ltInt p x) p a b d dk i j)) (fun vj _ => (intOf vj).toNat)
        case atStart => exact ⟨j0, rfl, Nat.le_refl _, hij1, HRu, HSu⟩
        case round =>
          obtain ⟨j, rfl, hjj, hij2, HRd, HSd⟩ := hrel
          have bi := HSd.out.ai
          by_cases hd : i ≤ j
          · have hdz : (i : Int) ≤ (j : Int) := by omega
            exfalso; omega
          · have hdz : decide ((i : Int) ≤ (j : Int)) = false := decide_eq_false (by omega)
            have hdz2 : (j : Int) < (i : Int) := by omega
            go_wp2_with fail
            go_big_quiet (first | (go_at_call 36; refine Calls.quiet_of_same (less_u _ _ _)))
            go_wp2_with fail
            replace HRd := hidU (HRd.out.drewN nq)
            generalize World.drewN _ nq = wr5 at *
            clear nq
            go_ret
            exact ⟨i, dk, rfl, HRd.out, HSd.out.eqEnd (by omega)⟩
end Go.Proofs.Qxb6605873a
