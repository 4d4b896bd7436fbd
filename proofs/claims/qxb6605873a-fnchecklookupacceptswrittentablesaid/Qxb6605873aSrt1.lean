/-
  The library's sort at uint64: reverseRangeOrdered (34), siftDownOrdered (41).
-/
import Derived.Test.Qxb6605873aSrt0
import Derived.Sort.LotB
namespace Go.Proofs.Qxb6605873a
open Go.RowKit Go.Sort
set_option linter.unusedSimpArgs false
set_option linter.unusedVariables false

set_option maxHeartbeats 1000000 in
/-- reverseRangeOrdered: it permutes the part. -/
theorem reverse_u (g o n cap a b : Nat) (d : Array Int) (w : World) (h : RowU w g o n w d) (hab : a ≤ b) (hb : b ≤ n) (hn : n ≤ 1048576) :
    Calls Try.prog 34 #[.slice (some ⟨g, o, none⟩) n cap, .int .i64 a, .int .i64 b] w fun e w' => e = .returned (.tuple #[]) ∧ ∃ d', RowU w g o n w' d' ∧ PermIn a b d d' := by
  have H0 := hidU h
  clear h
  go_enter Try.func34, Try.ntmps34
  go_wp2_with fail
  go_loopw [6, 7] (fun vi vj wr => ∃ (i : Nat) (j : Int) (dk : Array Int), vi = .int .i64 i ∧ vj = .int .i64 j ∧ a ≤ i ∧ i ≤ n ∧ -1 ≤ j ∧ j < b ∧ Hid (RowU w g o n wr dk) ∧ Hid (PermIn a b d dk)) (fun vi vj _ => (intOf vj - intOf vi).toNat)
  case atStart => exact ⟨a, (b : Int) - 1, d, rfl, rfl, Nat.le_refl _, by omega, by omega, by omega, H0, permIn_refl _ _ _⟩
  case round =>
    obtain ⟨i, j, dk, rfl, rfl, hai, hin, hj0, hjb, HR, HP⟩ := hrel
    by_cases hlt : (i : Int) < j
    · obtain ⟨k, rfl⟩ := Int.eq_ofNat_of_zero_le (show 0 ≤ j by omega)
      obtain ⟨G, hG⟩ : ∃ G : Nat → Int, ∀ t, G t = dk[t]! := ⟨fun t => dk[t]!, fun _ => rfl⟩
      have hcw : ∀ t, t < n → wr.cell? ⟨g, o + t, none⟩ = some (.int .u64 (G t)) := fun t ht => by rw [hG]; exact HR.out.cell t ht
      have hfw : ∀ t, t < n → wr.frozen? ⟨g, o + t, none⟩ = false := HR.out.fz
      have HG := hidU hG
      have i1 : i < n := by omega
      have k1 : k < n := by omega
      have HP' : Hid (PermIn a b d (swp dk i k)) := permIn_trans _ _ _ _ _ HP.out (swp_permIn _ _ _ _ _ hai (by omega) (by omega) (by omega) (by have := HR.out.size; omega))
      clear hG
      go_wp2_with fail
      go_region
      all_goals go_wp2_with fail
      go_roundw
      case rel =>
        refine ⟨i + 1, (k : Int) - 1, swp dk i k, by go_num, rfl, by omega, by omega, by omega, by omega, ?_, HP'⟩
        rw [HG.out, HG.out]; exact HR.out.swap 1 i k i1 k1
      case measure => simp [intOf]; omega
    · go_wp2_with fail
      go_end0
      exact ⟨rfl, dk, HR.out, HP.out⟩

/-! ### siftDown by what its tests say -/
theorem sdEnd {hi F root : Nat} (d : Array Int) (h : hi ≤ 2 * root + 1) : siftDown ltInt hi F root d = d := by rw [siftDown, dif_pos h]
/-- c: the child that the text takes. -/
def Child (d : Array Int) (hi F root c : Nat) : Prop := (c = 2 * root + 2 ∧ 2 * root + 2 < hi ∧ ltInt d[F + (2 * root + 1)]! d[F + (2 * root + 2)]! = true) ∨ (c = 2 * root + 1 ∧ (2 * root + 2 < hi → ltInt d[F + (2 * root + 1)]! d[F + (2 * root + 2)]! = false))
theorem sdStop {hi F root c : Nat} (d : Array Int) (h0 : 2 * root + 1 < hi)
    (hc : Child d hi F root c)
    (h3 : ltInt d[F + root]! d[F + c]! = false) : siftDown ltInt hi F root d = d := by
  rw [siftDown, dif_neg (by omega), show F + (2 * root + 1) + 1 = F + (2 * root + 2) by omega]
  rcases hc with ⟨rfl, h1, h2⟩ | ⟨rfl, h1⟩
  · simp [show 2 * root + 1 + 1 < hi by omega, h2, h3]
  · by_cases h : 2 * root + 2 < hi
    · simp [h1 h, h3]
    · simp [show ¬ 2 * root + 1 + 1 < hi by omega, h3]
theorem sdGo {hi F root c : Nat} (d : Array Int) (h0 : 2 * root + 1 < hi)
    (hc : Child d hi F root c)
    (h3 : ltInt d[F + root]! d[F + c]! = true) : siftDown ltInt hi F root d = siftDown ltInt hi F c (swp d (F + root) (F + c)) := by
  rw [siftDown, dif_neg (by omega), show F + (2 * root + 1) + 1 = F + (2 * root + 2) by omega]
  rcases hc with ⟨rfl, h1, h2⟩ | ⟨rfl, h1⟩
  · simp [show 2 * root + 1 + 1 < hi by omega, h2, h3]
  · by_cases h : 2 * root + 2 < hi
    · simp [h1 h, h3]
    · simp [show ¬ 2 * root + 1 + 1 < hi by omega, h3]

set_option maxHeartbeats 4000000 in
set_option maxRecDepth 100000 in
/-- siftDownOrdered: exactly what the plain function makes of the row. -/
theorem sift_u (g o n cap lo hi F : Nat) (d : Array Int) (w : World) (h : RowU w g o n w d) (hlo : lo ≤ hi) (hb : F + hi ≤ n) (hn : n ≤ 1048576) :
    Calls Try.prog 41 #[.slice (some ⟨g, o, none⟩) n cap, .int .i64 lo, .int .i64 hi, .int .i64 F] w fun e w' => e = .returned (.tuple #[]) ∧ RowU w g o n w' (siftDown ltInt hi F lo d) := by
  have H0 := hidU h
  clear h
  go_enter Try.func41, Try.ntmps41
  go_wp2_with fail
  go_loopw [8, 9] (fun vr _ wr => ∃ (r : Nat) (dk : Array Int), vr = .int .i64 r ∧ r ≤ hi ∧ Hid (RowU w g o n wr dk) ∧ Hid (siftDown ltInt hi F r dk = siftDown ltInt hi F lo d)) (fun vr _ _ => hi - (intOf vr).toNat)
  case atStart => exact ⟨lo, d, rfl, hlo, H0, rfl⟩
  case round =>
    obtain ⟨r, dk, rfl, hrh, HR, HS⟩ := hrel
    by_cases hend : hi ≤ 2 * r + 1
    · have h0z : (hi : Int) ≤ 2 * (r : Int) + 1 := by omega
      go_wp2_with fail
      go_end0
      exact ⟨rfl, by rw [← HS.out, sdEnd _ hend]; exact HR.out⟩
    · have h0z : ¬ ((hi : Int) ≤ 2 * (r : Int) + 1) := by omega
      obtain ⟨G, hG⟩ : ∃ G : Nat → Int, ∀ t, G t = dk[t]! := ⟨fun t => dk[t]!, fun _ => rfl⟩
      have hcw : ∀ t, t < n → wr.cell? ⟨g, o + t, none⟩ = some (.int .u64 (G t)) := fun t ht => by rw [hG]; exact HR.out.cell t ht
      have hfw : ∀ t, t < n → wr.frozen? ⟨g, o + t, none⟩ = false := HR.out.fz
      have HG := hidU hG
      clear hG
      by_cases h2 : 2 * r + 2 < hi
      · have h1z : 2 * (r : Int) + 1 + 1 < (hi : Int) := by omega
        cases hl : ltInt (G (F + 2 * r + 1)) (G (F + 2 * r + 2))
        · have HC : Hid (Child dk hi F r (2 * r + 1)) := Or.inr ⟨rfl, fun _ => by rw [← HG.out, ← HG.out]; exact hl⟩
          go_wp2_with fail
          go_big_quiet (first | (go_at_call 36; refine Calls.quiet_of_same (less_u _ _ _)))
          go_wp2_with fail
          have HR2 : Hid (RowU w g o n (wr.drewN nq) dk) := HR.out.drewN nq
          have hcw2 : ∀ t, t < n → (wr.drewN nq).cell? ⟨g, o + t, none⟩ = some (.int .u64 (G t)) := hcw
          have hfw2 : ∀ t, t < n → (wr.drewN nq).frozen? ⟨g, o + t, none⟩ = false := hfw
          clear hcw hfw
          generalize wr.drewN nq = wr2 at *
          clear nq
          cases hm : ltInt (G (F + r)) (G (F + 2 * r + 1))
          · go_big_quiet (first | (go_at_call 36; refine Calls.quiet_of_same (less_u _ _ _)))
            go_wp2_with fail
            (try simp only [Exit.inBlock, Exit.then]); refine bodyPost_ret (results_none rfl _ _ _) rfl ?_
            exact ⟨rfl, by rw [← HS.out, sdStop (c := 2 * r + 1) dk (by omega) HC.out (by rw [← HG.out, ← HG.out]; exact hm)]; exact HR2.out.drewN _⟩
          · go_big_quiet (first | (go_at_call 36; refine Calls.quiet_of_same (less_u _ _ _)))
            go_wp2_with fail
            have HR3 : Hid (RowU w g o n (wr2.drewN nq) dk) := HR2.out.drewN nq
            have hcw3 : ∀ t, t < n → (wr2.drewN nq).cell? ⟨g, o + t, none⟩ = some (.int .u64 (G t)) := hcw2
            have hfw3 : ∀ t, t < n → (wr2.drewN nq).frozen? ⟨g, o + t, none⟩ = false := hfw2
            clear hcw2 hfw2
            generalize wr2.drewN nq = wr3 at *
            go_region
            all_goals go_wp2_with fail
            go_roundw
            case rel =>
              refine ⟨2 * r + 1, swp dk (F + r) (F + (2 * r + 1)), by first | go_num | (simp; omega), by omega, ?_, ?_⟩
              · rw [HG.out, HG.out]; exact HR3.out.swap 1 (F + r) (F + (2 * r + 1)) (by omega) (by omega)
              · show _ = _
                rw [← HS.out, sdGo (c := 2 * r + 1) dk (by omega) HC.out (by rw [← HG.out, ← HG.out]; exact hm)]
            case measure => simp [intOf]; omega
        · have HC : Hid (Child dk hi F r (2 * r + 2)) := Or.inl ⟨rfl, h2, by rw [← HG.out, ← HG.out]; exact hl⟩
          go_wp2_with fail
          go_big_quiet (first | (go_at_call 36; refine Calls.quiet_of_same (less_u _ _ _)))
          go_wp2_with fail
          have HR2 : Hid (RowU w g o n (wr.drewN nq) dk) := HR.out.drewN nq
          have hcw2 : ∀ t, t < n → (wr.drewN nq).cell? ⟨g, o + t, none⟩ = some (.int .u64 (G t)) := hcw
          have hfw2 : ∀ t, t < n → (wr.drewN nq).frozen? ⟨g, o + t, none⟩ = false := hfw
          clear hcw hfw
          generalize wr.drewN nq = wr2 at *
          clear nq
          cases hm : ltInt (G (F + r)) (G (F + 2 * r + 2))
          · go_big_quiet (first | (go_at_call 36; refine Calls.quiet_of_same (less_u _ _ _)))
            go_wp2_with fail
            (try simp only [Exit.inBlock, Exit.then]); refine bodyPost_ret (results_none rfl _ _ _) rfl ?_
            exact ⟨rfl, by rw [← HS.out, sdStop (c := 2 * r + 2) dk (by omega) HC.out (by rw [← HG.out, ← HG.out]; exact hm)]; exact HR2.out.drewN _⟩
          · go_big_quiet (first | (go_at_call 36; refine Calls.quiet_of_same (less_u _ _ _)))
            go_wp2_with fail
            have HR3 : Hid (RowU w g o n (wr2.drewN nq) dk) := HR2.out.drewN nq
            have hcw3 : ∀ t, t < n → (wr2.drewN nq).cell? ⟨g, o + t, none⟩ = some (.int .u64 (G t)) := hcw2
            have hfw3 : ∀ t, t < n → (wr2.drewN nq).frozen? ⟨g, o + t, none⟩ = false := hfw2
            clear hcw2 hfw2
            generalize wr2.drewN nq = wr3 at *
            go_region
            all_goals go_wp2_with fail
            go_roundw
            case rel =>
              refine ⟨2 * r + 2, swp dk (F + r) (F + (2 * r + 1 + 1)), by first | go_num | (simp; omega), by omega, ?_, ?_⟩
              · rw [HG.out, HG.out]; exact HR3.out.swap 1 (F + r) (F + (2 * r + 1 + 1)) (by omega) (by omega)
              · show _ = _
                rw [← HS.out, sdGo (c := 2 * r + 2) dk (by omega) HC.out (by rw [← HG.out, ← HG.out]; exact hm)]
            case measure => simp [intOf]; omega
      · have h1z : decide (2 * (r : Int) + 1 + 1 < (hi : Int)) = false := decide_eq_false (by omega)
        have HC : Hid (Child dk hi F r (2 * r + 1)) := Or.inr ⟨rfl, fun h => absurd h h2⟩
        go_wp2_with fail
        go_big_quiet (first | (go_at_call 36; refine Calls.quiet_of_same (less_u _ _ _)))
        go_wp2_with fail
        have HR2 : Hid (RowU w g o n (wr.drewN nq) dk) := HR.out.drewN nq
        have hcw2 : ∀ t, t < n → (wr.drewN nq).cell? ⟨g, o + t, none⟩ = some (.int .u64 (G t)) := hcw
        have hfw2 : ∀ t, t < n → (wr.drewN nq).frozen? ⟨g, o + t, none⟩ = false := hfw
        clear hcw hfw
        generalize wr.drewN nq = wr2 at *
        clear nq
        cases hm : ltInt (G (F + r)) (G (F + 2 * r + 1))
        · go_big_quiet (first | (go_at_call 36; refine Calls.quiet_of_same (less_u _ _ _)))
          go_wp2_with fail
          (try simp only [Exit.inBlock, Exit.then]); refine bodyPost_ret (results_none rfl _ _ _) rfl ?_
          exact ⟨rfl, by rw [← HS.out, sdStop (c := 2 * r + 1) dk (by omega) HC.out (by rw [← HG.out, ← HG.out]; exact hm)]; exact HR2.out.drewN _⟩
        · go_big_quiet (first | (go_at_call 36; refine Calls.quiet_of_same (less_u _ _ _)))
          go_wp2_with fail
          have HR3 : Hid (RowU w g o n (wr2.drewN nq) dk) := HR2.out.drewN nq
          have hcw3 : ∀ t, t < n → (wr2.drewN nq).cell? ⟨g, o + t, none⟩ = some (.int .u64 (G t)) := hcw2
          have hfw3 : ∀ t, t < n → (wr2.drewN nq).frozen? ⟨g, o + t, none⟩ = false := hfw2
          clear hcw2 hfw2
          generalize wr2.drewN nq = wr3 at *
          go_region
          all_goals go_wp2_with fail
          go_roundw
          case rel =>
            refine ⟨2 * r + 1, swp dk (F + r) (F + (2 * r + 1)), by first | go_num | (simp; omega), by omega, ?_, ?_⟩
            · rw [HG.out, HG.out]; exact HR3.out.swap 1 (F + r) (F + (2 * r + 1)) (by omega) (by omega)
            · show _ = _
              rw [← HS.out, sdGo (c := 2 * r + 1) dk (by omega) HC.out (by rw [← HG.out, ← HG.out]; exact hm)]
          case measure => simp [intOf]; omega
end Go.Proofs.Qxb6605873a
