/-
  The law's own walk (6): the early ways out; no entries.
-/
import Derived.Test.Qxb6605873aLk2
import Derived.Test.Qxb6605873aLk3
import Derived.Test.Qxb6605873aLk6
import Derived.Test.Qxb6605873aLk7
namespace Go.Proofs.Qxb6605873a
open Go.RowKit Go.Sort
set_option linter.unusedSimpArgs false
set_option linter.unusedVariables false

set_option maxHeartbeats 4000000 in
set_option maxRecDepth 100000 in
theorem early_big (a0 a1 a2 : Option Addr) (n0 c0 n1 c1 n2 c2 : Nat) (a3 a4 a5 : Int) (w : World) (h : ¬ (n0 ≤ 1048576 ∧ n1 ≤ 1048576 ∧ n2 ≤ 1048576 ∧ 8 * (n0 + n2) + n1 ≤ 1048576)) :
    Calls Try.prog 6 #[.slice a0 n0 c0, .slice a1 n1 c1, .slice a2 n2 c2, .int .i64 a3, .int .u8 a4, .int .u32 a5] w fun e w' => e = .returned (.bool true) ∧ RowKit.Below w.heap.size w w' := by
  have H21 := hidU (bytes21 a0 a1 a2 n0 c0 n1 c1 n2 c2 a3 a4 a5 w)
  by_cases h0 : n0 ≤ 1048576
  · by_cases h1 : n1 ≤ 1048576
    · by_cases h2 : n2 ≤ 1048576
      · have h3 : ¬ (8 * (n0 + n2) + n1 ≤ 1048576) := fun e => h ⟨h0, h1, h2, e⟩
        clear h
        go_enter Try.func6, Try.ntmps6
        go_wp2_with fail
        refine H21.out.mono ?_
        rintro e w' ⟨b, rfl, rfl⟩
        cases b
        · go_wp2_with fail
          go_ret
          exact ⟨rfl, RowKit.Below.refl _ _⟩
        · go_wp2_with fail
          go_ret
          exact ⟨rfl, RowKit.Below.refl _ _⟩
      · clear h
        go_enter Try.func6, Try.ntmps6
        go_wp2_with fail
        refine H21.out.mono ?_
        rintro e w' ⟨b, rfl, rfl⟩
        cases b
        · go_wp2_with fail
          go_ret
          exact ⟨rfl, RowKit.Below.refl _ _⟩
        · go_wp2_with fail
          go_ret
          exact ⟨rfl, RowKit.Below.refl _ _⟩
    · clear h
      go_enter Try.func6, Try.ntmps6
      go_wp2_with fail
      refine H21.out.mono ?_
      rintro e w' ⟨b, rfl, rfl⟩
      cases b
      · go_wp2_with fail
        go_ret
        exact ⟨rfl, RowKit.Below.refl _ _⟩
      · go_wp2_with fail
        go_ret
        exact ⟨rfl, RowKit.Below.refl _ _⟩
  · clear h
    go_enter Try.func6, Try.ntmps6
    go_wp2_with fail
    refine H21.out.mono ?_
    rintro e w' ⟨b, rfl, rfl⟩
    cases b
    · go_wp2_with fail
      go_ret
      exact ⟨rfl, RowKit.Below.refl _ _⟩
    · go_wp2_with fail
      go_ret
      exact ⟨rfl, RowKit.Below.refl _ _⟩

set_option maxHeartbeats 4000000 in
set_option maxRecDepth 100000 in
theorem early_len (a0 a1 a2 : Option Addr) (n0 c0 n1 c1 n2 c2 : Nat) (a3 a4 a5 : Int) (w : World) (h17 : 8 * (n0 + n2) + n1 ≤ 1048576) (h : ¬ (n1 = n0 ∧ n2 = n0)) :
    Calls Try.prog 6 #[.slice a0 n0 c0, .slice a1 n1 c1, .slice a2 n2 c2, .int .i64 a3, .int .u8 a4, .int .u32 a5] w fun e w' => e = .returned (.bool true) ∧ RowKit.Below w.heap.size w w' := by
  have H21 := hidU (bytes21 a0 a1 a2 n0 c0 n1 c1 n2 c2 a3 a4 a5 w)
  have H22 := hidU (prem_len a0 a1 a2 n0 n1 n2 c0 c1 c2 (fun _ => 0) (fun _ => 0) w (by omega) (by omega) (by omega) h)
  have h0 : n0 ≤ 1048576 := by omega
  have h1 : n1 ≤ 1048576 := by omega
  have h2 : n2 ≤ 1048576 := by omega
  clear h
  go_enter Try.func6, Try.ntmps6
  go_wp2_with fail
  refine H21.out.mono ?_
  rintro e w' ⟨b, rfl, rfl⟩
  cases b
  · go_wp2_with fail
    go_ret
    exact ⟨rfl, RowKit.Below.refl _ _⟩
  go_wp2_with fail
  refine H22.out.mono ?_
  rintro e w2 ⟨rfl, rfl⟩
  go_wp2_with fail
  go_ret
  exact ⟨rfl, RowKit.Below.refl _ _⟩

set_option maxHeartbeats 4000000 in
set_option maxRecDepth 100000 in
theorem early_spoil (a0 a1 a2 : Option Addr) (n c0 c1 c2 : Nat) (xor off : Nat → Int) (kk wh dd : Int) (w : World) (h17 : 8 * (n + n) + n ≤ 1048576)
    (hx0 : ∀ j, j < n → 0 ≤ xor j ∧ xor j < 256) (h1 : Src .u8 w a1 n xor) (h2 : Src .i64 w a2 n off) (hw0 : 0 ≤ wh) (hw : wh < 3) (hbad : kk < 0 ∨ (n : Int) ≤ kk ∨ dd = 0) :
    Calls Try.prog 6 #[.slice a0 n c0, .slice a1 n c1, .slice a2 n c2, .int .i64 kk, .int .u8 wh, .int .u32 dd] w fun e w' => e = .returned (.bool true) ∧ RowKit.Below w.heap.size w w' := by
  have hn : n ≤ 1048576 := by omega
  have H21 := hidU (bytes21 a0 a1 a2 n c0 n c1 n c2 kk wh dd w)
  have H22 := hidU (prem_u a0 a1 a2 n c0 c1 c2 xor off w hn hx0 h1 h2)
  clear hx0 h1 h2
  by_cases b1 : kk < 0
  · clear hbad
    go_enter Try.func6, Try.ntmps6
    go_wp2_with fail
    refine H21.out.mono ?_
    rintro e w' ⟨b, rfl, rfl⟩
    cases b
    · go_wp2_with fail
      go_ret
      exact ⟨rfl, RowKit.Below.refl _ _⟩
    go_wp2_with fail
    refine H22.out.mono ?_
    rintro e w2 ⟨b, rfl, hb2, hP⟩
    have HB := hidU hb2
    clear hP hb2
    cases b
    · go_wp2_with fail
      go_ret
      exact ⟨rfl, HB.out⟩
    go_wp2_with fail
    go_ret
    exact ⟨rfl, HB.out⟩
  · by_cases b2 : (n : Int) ≤ kk
    · clear hbad
      go_enter Try.func6, Try.ntmps6
      go_wp2_with fail
      refine H21.out.mono ?_
      rintro e w' ⟨b, rfl, rfl⟩
      cases b
      · go_wp2_with fail
        go_ret
        exact ⟨rfl, RowKit.Below.refl _ _⟩
      go_wp2_with fail
      refine H22.out.mono ?_
      rintro e w2 ⟨b, rfl, hb2, hP⟩
      have HB := hidU hb2
      clear hP hb2
      cases b
      · go_wp2_with fail
        go_ret
        exact ⟨rfl, HB.out⟩
      go_wp2_with fail
      go_ret
      exact ⟨rfl, HB.out⟩
    · have b3 : dd = 0 := by omega
      subst b3
      clear hbad
      go_enter Try.func6, Try.ntmps6
      go_wp2_with fail
      refine H21.out.mono ?_
      rintro e w' ⟨b, rfl, rfl⟩
      cases b
      · go_wp2_with fail
        go_ret
        exact ⟨rfl, RowKit.Below.refl _ _⟩
      go_wp2_with fail
      refine H22.out.mono ?_
      rintro e w2 ⟨b, rfl, hb2, hP⟩
      have HB := hidU hb2
      clear hP hb2
      cases b
      · go_wp2_with fail
        go_ret
        exact ⟨rfl, HB.out⟩
      go_wp2_with fail
      go_ret
      exact ⟨rfl, HB.out⟩

set_option maxHeartbeats 16000000 in
set_option maxRecDepth 100000 in
theorem main_zero (a0 a1 a2 : Option Addr) (n c0 c1 c2 : Nat) (z0 z1 z2 : List Int) (kk wh dd : Int) (w : World) (hz : Hid (n = 0)) (hn : n ≤ 1048576) (h17 : 8 * (n + n) + n ≤ 1048576)
    (s0 : SrcAt .u32 w a0 n c0 z0) (s1 : SrcAt .u8 w a1 n c1 z1) (s2 : SrcAt .i64 w a2 n c2 z2) (hw : 3 ≤ wh) (hw2 : wh < 256) :
    Calls Try.prog 6 #[.slice a0 n c0, .slice a1 n c1, .slice a2 n c2, .int .i64 kk, .int .u8 wh, .int .u32 dd] w fun e w' => e = .returned (.bool true) ∧ RowKit.Below w.heap.size w w' := by
  have hmkI := run_make_row' (P := Try.prog) 34 3 (.int .i64 0) 8 Try.underlying34 Try.infoB3 rfl .i64 .i64 n (by omega) (by omega)
  have hmk32 := run_make_row' (P := Try.prog) 32 43 (.int .u32 0) 4 Try.underlying32 Try.infoB43 rfl .i64 .i64 n (by omega) (by omega)
  have hmk64 := run_make_row' (P := Try.prog) 33 23 (.int .u64 0) 8 Try.underlying33 Try.infoB23 rfl .i64 .i64 n (by omega) (by omega)
  have H21 := hidU (bytes21 a0 a1 a2 n c0 n c1 n c2 kk wh dd w)
  have H22 := hidU (prem_u a0 a1 a2 n c0 c1 c2 (fun j => z1[j]?.getD 0) (fun j => z2[j]?.getD 0) w hn (fun j hj => by have := hz.out; omega) (Src.of s1) (Src.of s2))
  have HS0 := hidU s0
  have HS1 := hidU s1
  have HS2 := hidU s2
  clear s0 s1 s2
  go_enter Try.func6, Try.ntmps6
  go_wp2_with fail
  refine H21.out.mono ?_
  rintro e w' ⟨b, rfl, rfl⟩
  cases b
  · go_wp2_with fail
    go_ret
    exact ⟨rfl, RowKit.Below.refl _ _⟩
  go_wp2_with fail
  refine H22.out.mono ?_
  rintro e w2 ⟨b, rfl, hb2, hP⟩
  have HB := hidU hb2
  clear hP hb2
  cases b
  · go_wp2_with fail
    go_ret
    exact ⟨rfl, HB.out⟩
  go_wp2_with fail
  refine (clone_src32 a0 n c0 z0 w2 (HS0.out.below HB.out) hn).mono ?_
  rintro e w3 ⟨b0, k0, rfl, t0, hb⟩
  have HT0 := hidU t0
  have HB3 := hidU (Below.step HB.out hb (Nat.le_refl _))
  clear t0 hb
  go_wp2_with fail
  refine (clone_src a1 n c1 z1 w3 (HS1.out.below HB3.out) hn).mono ?_
  rintro e w4 ⟨b1, k1, rfl, t1, hb⟩
  have HT1 := hidU t1
  have HT0b := hidU (HT0.out.below hb)
  have HB4 := hidU (Below.step HB3.out hb (Nat.le_refl _))
  clear t1 hb HT0
  go_wp2_with fail
  refine (clone_srcI a2 n c2 z2 w4 (HS2.out.below HB4.out) hn).mono ?_
  rintro e w5 ⟨b2, k2, rfl, t2, hb⟩
  have HT2 := hidU t2
  have HT0 := hidU (HT0b.out.below hb)
  have HT1b := hidU (HT1.out.below hb)
  have HB5 := hidU (Below.step HB4.out hb (Nat.le_refl _))
  clear t2 hb HT0b HT1
  go_wp2_with fail
  refine (ranks_u b0 n k0 _ w5 (Src.of HT0.out) hn).mono ?_
  rintro e w6 ⟨gR, rfl, hgR, hb, σ, r, o1, o2, hr⟩
  have HT0b := hidU (HT0.out.below hb)
  have HT1 := hidU (HT1b.out.below hb)
  have HT2b := hidU (HT2.out.below hb)
  have HB6 := hidU (Below.step HB5.out hb (Nat.le_refl _))
  clear hr hb o1 o2 HB5 HT0 HT1b HT2 hgR
  go_wp2_with fail
  go_loopw [17] (fun v17 wz => v17 = .int .i64 0 ∧ Hid (RowKit.Below w6.heap.size w6 wz)) (fun v17 _ => 0)
  case atStart => exact ⟨rfl, Below.alloc' (RowKit.Below.refl _ _) (Nat.le_refl _) _⟩
  case round =>
    obtain ⟨rfl, HBo⟩ := hrel
    have hnp : ¬ (0 : Int) < (n : Int) := by have := hz.out; omega
    have HT07 := hidU (HT0b.out.below HBo.out)
    have HT17 := hidU (HT1.out.below HBo.out)
    have HT27 := hidU (HT2b.out.below HBo.out)
    have HB7 := hidU (Below.step HB6.out HBo.out (Nat.le_refl _))
    clear HB6 HBo HT0b HT1 HT2b
    go_wp2_with fail
    go_loopw [21] (fun v21 wz => v21 = .int .i64 0 ∧ Hid (RowKit.Below wr.heap.size wr wz) ∧ Hid (wr.heap.size + 1 + 1 < wz.heap.size)) (fun v21 _ => 0)
    case atStart => exact ⟨rfl, Below.alloc' (Below.alloc' (Below.alloc' (RowKit.Below.refl _ _) (Nat.le_refl _) _) (by simp only [sizeA]; omega) _) (by simp only [sizeA]; omega) _, hidU (by simp only [sizeA]; omega)⟩
    case round =>
      obtain ⟨rfl, HBq, HSZ⟩ := hrel
      have row : ∀ (k : IntKind) (g : Nat), g < wr.heap.size → RowF k wr g n (fun _ => 0) := fun k g hg => ⟨fun t ht => by have := hz.out; omega, fun t ht => by have := hz.out; omega, hg⟩
      have HROW := hidU row
      clear row
      have HT08 := hidU (HT07.out.below HBq.out)
      have HT18 := hidU (HT17.out.below HBq.out)
      have HT28 := hidU (HT27.out.below HBq.out)
      have HB8 := hidU (Below.step HB7.out HBq.out (Nat.le_refl _))
      clear HB7 HBq HT07 HT17 HT27
      go_wp2_with fail
      refine (zz_u _ _ _ n k0 k1 k2 b0 b1 b2 (fun j => z0[j]?.getD 0) (fun j => (z1[j]?.getD 0).toNat) (fun j => z2[j]?.getD 0) (fun _ => 0) (fun _ => 0) (fun _ => 0) wr (HROW.out _ _ (by have := HSZ.out; omega)) (HROW.out _ _ (by have := HSZ.out; omega)) (HROW.out _ _ (by have := HSZ.out; omega)) (Src.of HT08.out) ⟨HT18.out |> Src.of |>.nil, fun ad ha j hj => by have := hz.out; omega⟩ (Src.of HT28.out) hn (fun i hi => by have := hz.out; omega) (fun i hi => by have := hz.out; omega) (fun i hi => by have := hz.out; omega)).mono ?_
      rintro e w9 ⟨hb, σ', r', o1, o2, hR⟩
      have HB9 := hidU (Below.step HB8.out hb (Nat.le_refl _))
      clear hb o1 o2
      rcases hR with ⟨rfl, hv⟩ | ⟨q', hq', rfl, hv, hv2⟩
      · clear hv
        go_wp2_with fail
        go_ret
        exact ⟨rfl, HB9.out⟩
      · exfalso; have := hz.out; omega
end Go.Proofs.Qxb6605873a
