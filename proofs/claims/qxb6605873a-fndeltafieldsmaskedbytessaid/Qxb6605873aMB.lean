/-
  The walks of zzLowBits (10), zzPopcount8 (11) and FnDeltaFieldsMaskedBytes (3).
-/
import Derived.Test.Qxb6605873aClone
import Derived.Test.Qxb6605873aZZ
import Derived.Test.Qxb6605873aMask
namespace Go.Proofs.Qxb6605873a
open Go.RowKit

theorem ret_i {k : IntKind} {a b : Int} (h : a = b) : Ending.returned (.int k a) = .returned (.int k b) := by rw [h]

set_option maxHeartbeats 400000 in
theorem low_any (wd : Int) (w : World) :
    Calls Try.prog 10 #[.int .i64 wd] w fun e w' => e = .returned (.int .u8 (lowB wd)) ∧ w = w' := by
  by_cases h0 : wd ≤ 0
  · go_enter Try.func10, Try.ntmps10
    go_wp2
    go_ret
    exact ⟨ret_i (by simp [lowB, h0]), rfl⟩
  · by_cases h8 : 8 ≤ wd
    · go_enter Try.func10, Try.ntmps10
      go_wp2
      go_ret
      exact ⟨ret_i (by simp [lowB, h0, h8]), rfl⟩
    · obtain ⟨n, rfl⟩ := Int.eq_ofNat_of_zero_le (show 0 ≤ wd by omega)
      have h1 : ¬ (n = 0) := by omega
      have h2 : (n : Int) < 8 := by omega
      have HL : Hid (lowB (n : Int) = (2 ^ n % 256 - 1) % 256) := by show lowB (n : Int) = _; unfold lowB; rw [if_neg h0, if_neg h8, Int.toNat_natCast]
      clear h0 h8
      go_enter Try.func10, Try.ntmps10
      go_wp2
      go_ret
      exact ⟨ret_i HL.out.symm, rfl⟩

set_option maxHeartbeats 400000 in
theorem pop_any (b : Int) (w : World) :
    Calls Try.prog 11 #[.int .u8 b] w fun e w' => e = .returned (.int .i64 (cntM b 8)) ∧ w = w' := by
  go_enter Try.func11, Try.ntmps11
  go_wp2
  go_loop [3, 4] (fun c i => ∃ k m : Nat, k ≤ 8 ∧ i = .int .i64 k ∧ m ≤ k ∧ c = .int .i64 m ∧ Hid (m = cntM b k)) (fun _ i => 8 - (intOf i).toNat)
  case atStart => exact ⟨0, 0, by omega, rfl, by omega, rfl, rfl⟩
  case round =>
    obtain ⟨k, m, hk, rfl, hm, rfl, HM⟩ := hrel
    by_cases hlt : k < 8
    · by_cases hz : (bits BinOp.and IntKind.u8 b (2 ^ k % 256) != 0) = true
      · have HS : Hid (skipB b k = false) := by show skipB b k = false; unfold skipB bitZ; simp [show ¬ 8 ≤ k by omega]; simpa using hz
        go_wp2
        go_round
        case rel => exact ⟨k + 1, m + 1, by omega, by go_num, by omega, by go_num, by show m + 1 = _; rw [cnt_take HS.out, HM.out]⟩
        case measure => simp [intOf]; omega
      · have hz' : (bits BinOp.and IntKind.u8 b (2 ^ k % 256) != 0) = false := by simpa using hz
        have HS : Hid (skipB b k = true) := by show skipB b k = true; unfold skipB bitZ; simp; right; simpa using hz'
        clear hz
        go_wp2
        go_round
        case rel => exact ⟨k + 1, m, by omega, by go_num, by omega, rfl, by show m = _; rw [cnt_skip HS.out, HM.out]⟩
        case measure => simp [intOf]; omega
    · obtain rfl : k = 8 := by omega
      go_wp2
      go_ret
      exact ⟨ret_i (by rw [HM.out]), rfl⟩

set_option maxHeartbeats 400000 in
theorem bytes7_true (a0 : Option Addr) (n0 c0 : Nat) (a1 a2 a3 a4 a5 a6 : Int) (w : World) (h : n0 ≤ 1048576) :
    Calls Try.prog 7 #[.slice a0 n0 c0, .int .i64 a1, .int .u64 a2, .int .u64 a3, .int .u64 a4, .int .u8 a5, .int .i64 a6] w fun e w' => e = .returned (.bool true) ∧ w = w' := by
  go_enter Try.func7, Try.ntmps7
  go_wp2
  go_ret
  exact ⟨rfl, rfl⟩

set_option maxHeartbeats 400000 in
theorem bytes7_false (a0 : Option Addr) (n0 c0 : Nat) (a1 a2 a3 a4 a5 a6 : Int) (w : World) (h : ¬ n0 ≤ 1048576) :
    Calls Try.prog 7 #[.slice a0 n0 c0, .int .i64 a1, .int .u64 a2, .int .u64 a3, .int .u64 a4, .int .u8 a5, .int .i64 a6] w fun e w' => e = .returned (.bool false) ∧ w = w' := by
  go_enter Try.func7, Try.ntmps7
  go_wp2
  go_ret
  exact ⟨rfl, rfl⟩

set_option maxHeartbeats 400000 in
theorem mb_early (a0 : Option Addr) (n0 c0 : Nat) (a1 a2 a3 a4 a5 a6 : Int) (w : World) (h : ¬ n0 ≤ 1048576) :
    Calls Try.prog 3 #[.slice a0 n0 c0, .int .i64 a1, .int .u64 a2, .int .u64 a3, .int .u64 a4, .int .u8 a5, .int .i64 a6] w fun e w' => e = .returned (.bool true) ∧ Below w.heap.size w w' := by
  go_enter Try.func3, Try.ntmps3
  go_wp2_with (go_at_call 7; refine (bytes7_false _ _ _ _ _ _ _ _ _ _ h).mono ?_; rintro e w' ⟨rfl, rfl⟩)
  go_ret
  exact ⟨rfl, Below.refl _ _⟩

set_option maxHeartbeats 400000 in
theorem mb_out (a0 : Option Addr) (n0 c0 : Nat) (a1 a2 a3 a4 a5 a6 : Int) (w : World) (h : n0 ≤ 1048576) (hx : ¬ a6 ≤ 65536 ∨ a1 < 0 ∨ (n0 : Int) < a1) :
    Calls Try.prog 3 #[.slice a0 n0 c0, .int .i64 a1, .int .u64 a2, .int .u64 a3, .int .u64 a4, .int .u8 a5, .int .i64 a6] w fun e w' => e = .returned (.bool true) ∧ Below w.heap.size w w' := by
  by_cases h6 : a6 ≤ 65536
  · by_cases h1 : a1 < 0
    · clear hx
      go_enter Try.func3, Try.ntmps3
      go_wp2_with (go_at_call 7; refine (bytes7_true _ _ _ _ _ _ _ _ _ _ h).mono ?_; rintro e w' ⟨rfl, rfl⟩)
      go_ret
      exact ⟨rfl, Below.refl _ _⟩
    · have h2 : (n0 : Int) < a1 := by omega
      clear hx
      go_enter Try.func3, Try.ntmps3
      go_wp2_with (go_at_call 7; refine (bytes7_true _ _ _ _ _ _ _ _ _ _ h).mono ?_; rintro e w' ⟨rfl, rfl⟩)
      go_ret
      exact ⟨rfl, Below.refl _ _⟩
  · clear hx
    go_enter Try.func3, Try.ntmps3
    go_wp2_with (go_at_call 7; refine (bytes7_true _ _ _ _ _ _ _ _ _ _ h).mono ?_; rintro e w' ⟨rfl, rfl⟩)
    go_ret
    exact ⟨rfl, Below.refl _ _⟩

set_option maxRecDepth 100000 in
set_option maxHeartbeats 1000000 in
theorem mb_main (a0 : Option Addr) (n0 c0 i0 : Nat) (z0 : List Int) (bs sz md mask wd : Int) (w : World) (h : n0 ≤ 1048576) (hwd : wd ≤ 65536) (hi : i0 ≤ n0) (hm0 : 0 ≤ mask) (hm1 : mask < 256)
    (s0 : SrcAt .u8 w a0 n0 c0 z0) :
    Calls Try.prog 3 #[.slice a0 n0 c0, .int .i64 i0, .int .u64 bs, .int .u64 sz, .int .u64 md, .int .u8 mask, .int .i64 wd] w fun e w' => e = .returned (.bool true) ∧ Below w.heap.size w w' := by
  have S0 : Hid (SrcAt .u8 w a0 n0 c0 z0) := s0
  have hb := mw_bits mask wd hm0 hm1
  have hlaw := mask_law mask (mwOf mask wd) wd z0 n0 i0 hi hb.1 hb.2
  have hr := mwOf_range mask wd hm0 hm1
  have HLAW : Hid (FR mask z0 n0 wd.toNat 0 0 i0 = if i0 + cntM (mwOf mask wd) 8 ≤ n0 then (wtM (mwOf mask wd) z0 i0 8, true, i0 + cntM (mwOf mask wd) 8) else (0, false, n0)) := hlaw
  have HMW : Hid (bits BinOp.and IntKind.u8 mask (lowB wd) = mwOf mask wd) := rfl
  clear s0 hlaw hb
  go_enter Try.func3, Try.ntmps3
  go_wp2_with (go_at_call 7; refine (bytes7_true _ _ _ _ _ _ _ _ _ _ h).mono ?_; rintro e w' ⟨rfl, rfl⟩)
  refine (clone_src a0 n0 c0 z0 _ S0.out h).mono ?_
  rintro e w1 ⟨b0, d0, rfl, s1, hb1⟩
  have S1 : Hid (SrcAt .u8 w1 b0 n0 d0 z0) := s1
  have HB1 : Hid (Below w.heap.size w w1) := hb1
  clear s1 hb1 S0
  go_wp2_with fail
  refine (zzdelta_any n0 d0 i0 b0 z0 bs sz md mask wd w1 hm0 hm1 hwd (by omega) hi (fun e => (S1.out.1 e).1) S1.out.2.2).mono ?_
  rintro e w2 ⟨rfl, hb2⟩
  have S2 : Hid (SrcAt .u8 w2 b0 n0 d0 z0) := S1.out.below hb2
  have HB2 : Hid (Below w.heap.size w w2) := HB1.out.trans (hb2.mono HB1.out.size)
  clear hb2 S1 HB1
  have hc8 := cnt_le (mwOf mask wd) 8
  by_cases hneed : i0 + cntM (mwOf mask wd) 8 ≤ n0
  case neg =>
    rw [HLAW.out, if_neg hneed]
    go_wp2_with fail
    refine (low_any _ _).mono ?_
    rintro e w' ⟨rfl, rfl⟩
    go_wp2_with fail
    rw [HMW.out]
    clear HMW HLAW
    generalize mwOf mask wd = mw at *
    refine (pop_any _ _).mono ?_
    rintro e w' ⟨rfl, rfl⟩
    generalize cntM mw 8 = need at *
    go_wp2
    go_ret
    exact ⟨rfl, HB2.out⟩
  rw [HLAW.out, if_pos hneed]
  go_wp2_with fail
  refine (low_any _ _).mono ?_
  rintro e w' ⟨rfl, rfl⟩
  go_wp2_with fail
  rw [HMW.out]
  clear HMW HLAW
  generalize mwOf mask wd = mw at *
  refine (pop_any _ _).mono ?_
  rintro e w' ⟨rfl, rfl⟩
  generalize hWT : wtM mw z0 i0 8 = WT at *
  generalize hNE : cntM mw 8 = need at *
  have HWT : Hid (wtM mw z0 i0 8 = WT) := hWT
  have HNE : Hid (cntM mw 8 = need) := hNE
  clear hWT hNE
  go_wp2_with fail
  go_loop [20, 21] (fun v i => ∃ (k : Nat), k ≤ 8 ∧ i = .int .i64 k ∧ v = .int .u64 (wtM mw z0 i0 k)) (fun _ i => 8 - (intOf i).toNat)
  case atStart => exact ⟨0, by omega, rfl, rfl⟩
  case round =>
    obtain ⟨k, hk, rfl, rfl⟩ := hrel
    by_cases hlt : k < 8
    · by_cases hz : (bits BinOp.and IntKind.u8 mw (2 ^ k % 256) == 0) = true
      · have HS : Hid (skipB mw k = true) := by show skipB mw k = true; unfold skipB bitZ; rw [hz]; simp
        go_wp2_with fail
        go_round
        case rel => exact ⟨k + 1, by omega, by go_num, by rw [wt_skip HS.out]⟩
        case measure => simp [intOf]; omega
      · have hz' : (bits BinOp.and IntKind.u8 mw (2 ^ k % 256) == 0) = false := by simpa using hz
        have hs : skipB mw k = false := by unfold skipB bitZ; rw [hz']; simp; omega
        have hlt2 : cntM mw k < need := by
          have := cnt_mono mw (k + 1) (8 - (k + 1))
          rw [cnt_take hs, show k + 1 + (8 - (k + 1)) = 8 by omega, HNE.out] at this
          omega
        have HQ : Hid (cntM (bits BinOp.and IntKind.u8 mw ((2 ^ k - 1) % 256)) 8 = cntM mw k) := cnt_cut' mw hr.1 hr.2 k hlt
        have HS : Hid (skipB mw k = false) := hs
        have hx : ∃ ad, b0 = some ad := by
          cases b0 with
          | none => have := (S2.out.1 rfl).1; omega
          | some ad => exact ⟨ad, rfl⟩
        obtain ⟨ad, rfl⟩ := hx
        have hd : w2.cell? (ad.add (i0 + cntM mw k)) = some (.int .u8 (z0[i0 + cntM mw k]?.getD 0)) := S2.out.2.2 ad rfl _ (by omega)
        have HT : Hid (orB (wtM mw z0 i0 k) (z0[i0 + cntM mw k]?.getD 0) k = wtM mw z0 i0 (k + 1)) := (wt_take HS.out).symm
        clear hz hs
        go_wp2_with fail
        refine (pop_any _ _).mono ?_
        rintro e w' ⟨rfl, rfl⟩
        rw [HQ.out]
        clear HQ
        generalize cntM mw k = ck at *
        have b1 : (0 : Int) ≤ (i0 : Int) + (ck : Int) := by omega
        have b2 : (i0 : Int) + (ck : Int) < (n0 : Int) := by omega
        go_wp2_with fail
        go_round
        case rel => exact ⟨k + 1, by omega, by go_num, by rw [← HT.out]; rfl⟩
        case measure => simp [intOf]; omega
    · obtain rfl : k = 8 := by omega
      rw [HWT.out]
      go_wp2_with fail
      go_ret
      exact ⟨by simp, HB2.out⟩
end Go.Proofs.Qxb6605873a
