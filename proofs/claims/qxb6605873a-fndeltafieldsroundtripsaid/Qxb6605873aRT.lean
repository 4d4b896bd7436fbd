/-
  The walk of FnDeltaFieldsRoundTrip (function 4).
-/
import Derived.Test.Qxb6605873aClone
import Derived.Test.Qxb6605873aZZ
import Derived.Test.Qxb6605873aBl
namespace Go.Proofs.Qxb6605873a
open Go.RowKit

set_option maxHeartbeats 400000 in
theorem bytes12_true (a0 a3 : Option Addr) (n0 c0 n3 c3 : Nat) (x wd : Int) (w : World) (h : n0 + n3 ≤ 1048576) :
    Calls Try.prog 12 #[.slice a0 n0 c0, .int .u64 x, .int .i64 wd, .slice a3 n3 c3] w fun e w' => e = .returned (.bool true) ∧ w = w' := by
  go_enter Try.func12, Try.ntmps12
  go_wp2
  go_ret
  exact ⟨rfl, rfl⟩

set_option maxHeartbeats 400000 in
theorem bytes12_false (a0 a3 : Option Addr) (n0 c0 n3 c3 : Nat) (x wd : Int) (w : World) (h : ¬ n0 + n3 ≤ 1048576) (hn0 : n0 ≤ 9223372036854775807) (hn3 : n3 ≤ 9223372036854775807):
    Calls Try.prog 12 #[.slice a0 n0 c0, .int .u64 x, .int .i64 wd, .slice a3 n3 c3] w fun e w' => e = .returned (.bool false) ∧ w = w' := by
  by_cases h0 : n0 ≤ 1048576
  · by_cases h3 : n3 ≤ 1048576
    · go_enter Try.func12, Try.ntmps12
      go_wp2
      go_ret
      exact ⟨rfl, rfl⟩
    · go_enter Try.func12, Try.ntmps12
      go_wp2
      go_ret
      exact ⟨rfl, rfl⟩
  · go_enter Try.func12, Try.ntmps12
    go_wp2
    go_ret
    exact ⟨rfl, rfl⟩

set_option maxRecDepth 100000 in
set_option maxHeartbeats 1000000 in
theorem rt_main (a0 a3 : Option Addr) (n0 c0 n3 c3 : Nat) (z0 z3 : List Int) (x wd : Int) (w : World) (h : n0 + n3 ≤ 1048576) (hwd : wd ≤ 65536) (hwd0 : -9223372036854775808 ≤ wd) (hx0 : 0 ≤ x) (hx1 : x ≤ 18446744073709551615)
    (s0 : SrcAt .u8 w a0 n0 c0 z0) (s3 : SrcAt .u8 w a3 n3 c3 z3) :
    Calls Try.prog 4 #[.slice a0 n0 c0, .int .u64 x, .int .i64 wd, .slice a3 n3 c3] w fun e w' => e = .returned (.bool true) ∧ Below w.heap.size w w' := by
  have S0 : Hid (SrcAt .u8 w a0 n0 c0 z0) := s0
  have S3 : Hid (SrcAt .u8 w a3 n3 c3 z3) := s3
  clear s0 s3
  go_enter Try.func4, Try.ntmps4
  go_wp2_with (go_at_call 12; refine (bytes12_true _ _ _ _ _ _ _ _ _ h).mono ?_; rintro e w' ⟨rfl, rfl⟩)
  go_loop [9] (fun i => ∃ k : Nat, k ≤ 8 ∧ i = .int .i64 k ∧ Hid (∀ j : Nat, j < k → wd ≤ j → byteK x j = 0)) (fun i => 8 - (intOf i).toNat)
  case atStart => exact ⟨0, by omega, rfl, fun j hj => by omega⟩
  case round =>
    obtain ⟨k, hk, rfl, HJ⟩ := hrel
    by_cases hlt : k < 8
    · by_cases hge : wd ≤ k
      · by_cases hz : (x / 2 ^ (8 * k) % 256 != 0) = true
        · go_wp2
          go_ret
          exact ⟨rfl, Below.refl _ _⟩
        · have hz' : (x / 2 ^ (8 * k) % 256 != 0) = false := by simpa using hz
          have H0 : Hid (byteK x k = 0) := by show byteK x k = 0; simpa [byteK] using hz'
          clear hz
          go_wp2
          go_round
          case rel => exact ⟨k + 1, by omega, by go_num, fun j hj hw => by
            rcases Nat.lt_or_eq_of_le (Nat.le_of_lt_succ hj) with h | h
            · exact HJ.out j h hw
            · rw [h]; exact H0.out⟩
          case measure => simp [intOf]; omega
      · go_wp2
        go_round
        case rel => exact ⟨k + 1, by omega, by go_num, fun j hj hw => by
            rcases Nat.lt_or_eq_of_le (Nat.le_of_lt_succ hj) with h | h
            · exact HJ.out j h hw
            · omega⟩
        case measure => simp [intOf]; omega
    · have hk8 : k = 8 := by omega
      clear hk hlt
      subst hk8
      go_wp2_with fail
      refine (clone_src a0 n0 c0 z0 _ S0.out (by omega)).mono ?_
      rintro e w1 ⟨b0, d0, rfl, s0, hb1⟩
      have S0' : Hid (SrcAt .u8 w1 b0 n0 d0 z0) := s0
      have S3' : Hid (SrcAt .u8 w1 a3 n3 c3 z3) := S3.out.below hb1
      clear s0 S0 S3
      go_wp2_with fail
      refine (clone_src a3 n3 c3 z3 _ S3'.out (by omega)).mono ?_
      rintro e w2 ⟨b3, d3, rfl, s3, hb2⟩
      have S3 : Hid (SrcAt .u8 w2 b3 n3 d3 z3) := s3
      have S0 : Hid (SrcAt .u8 w2 b0 n0 d0 z0) := S0'.out.below hb2
      have HB : Hid (Below w.heap.size w w2) := hb1.trans (hb2.mono hb1.size)
      clear s3 S0' S3' hb1 hb2
      obtain ⟨i5, hi, hz0, hz1, hz2⟩ := info_parts Try.infoB5
      go_wp2_with (first | (at_make; refine wpList_make_own _ rfl _ _ 22 rfl w2.heap.size 5 i5 (.int .u8 0) 1 Try.underlying22 hi hz0 hz1 .i64 .i64 _ (n0 + 8 + n3) rfl rfl (by omega) (by rw [hz2]; omega) (by unfold maxLen; omega) (Nat.le_refl _) ?_; intro w3 hown hg3; have S0' := S0.out.below ((Below.refl _ w2).grown hg3 (Nat.le_refl _) (by intro k hk; cases hk))) | (at_builtin; go_loud (refine wpList_append_fits_any _ rfl (.tmp 67) (.tmp 68) 22 rfl w2.heap.size 5 i5 1 Try.underlying22 hi hz1 _ _ _ [] rfl hown _ _ _ ((z0.take n0).map (Value.int .u8)) rfl (by simp [S0.out.2.1]) S0.out.1 S0'.cells (ints_oneCell _ _) (by omega) ?_); intro w4 hown4 hg4; simp only [Nat.zero_add, List.nil_append] at hown4))
      have hb4 : Below w2.heap.size w2 w4 := (((Below.refl _ w2).grown hg3 (Nat.le_refl _) (by intro k hk; cases hk))).grown hg4 hg3.size (by intro k hk; cases hk; exact Nat.le_refl _)
      clear hg3 hg4 hown S0'
      go_loopw [10, 11, 12] (fun m d i wr => ∃ k : Nat, k ≤ 8 ∧ i = .int .i64 k ∧ m = .int .u8 (Mk x k) ∧ d = .slice (some ⟨w2.heap.size, 0, none⟩) (n0 + (Bl x k).length) (n0 + 8 + n3) ∧
          wr.ownsRow w2.heap.size 5 1 (.slice (some ⟨w2.heap.size, 0, none⟩) (n0 + (Bl x k).length) (n0 + 8 + n3)) (n0 + (Bl x k).length) ((z0.take n0 ++ Bl x k).map (Value.int .u8)) ∧ Below w2.heap.size w2 wr) (fun _ _ i _ => 8 - (intOf i).toNat)
      case atStart => exact ⟨0, by omega, rfl, rfl, rfl, by simpa [Bl] using hown4, hb4⟩
      case round =>
        clear hown4 hb4
        obtain ⟨k, hk, rfl, rfl, rfl, hown, hb⟩ := hrel
        have hL := Bl_le x k
        by_cases hlt : k < 8
        · by_cases hz : (x / 2 ^ (8 * k) % 256 != 0) = true
          · have H0 : Hid (¬ byteK x k = 0) := by show ¬ byteK x k = 0; simpa [byteK] using hz
            have hbz := hb.size
            go_wp2_with (at_builtin; refine wpList_append_fits _ rfl (.tmp 87) (.tmp 89) 22 rfl w2.heap.size 5 i5 1 Try.underlying22 hi hz1 _ _ _ _ rfl (hown.alloc _) ⟨wr.heap.size, 0, none⟩ 1 1 [.int .u8 (x / 2 ^ (8 * k) % 256)] rfl rfl (cell_one_new _ _ _) (by simp [Value.oneCell']) (by omega) ?_; intro w5 hown5 hg5)
            go_roundw
            case rel =>
              refine ⟨k + 1, by omega, by go_num, by rw [Mk_some H0.out], ?_, ?_, ((hb.alloc hbz _).grown hg5 (by simp; omega) (by intro k hk; cases hk; exact Nat.le_refl _))⟩
              · rw [Bl_some H0.out]; simp [Nat.add_assoc]
              · rw [Bl_some H0.out]
                simpa [Nat.add_assoc, byteK] using hown5
            case measure => simp [intOf]; omega
          · have hz' : (x / 2 ^ (8 * k) % 256 != 0) = false := by simpa using hz
            have H0 : Hid (byteK x k = 0) := by show byteK x k = 0; simpa [byteK] using hz'
            clear hz
            go_wp2
            go_roundw
            case rel => exact ⟨k + 1, by omega, by go_num, by rw [Mk_zero H0.out], by rw [Bl_zero H0.out], by rw [Bl_zero H0.out]; exact hown, hb⟩
            case measure => simp [intOf]; omega
        · obtain rfl : k = 8 := by omega
          clear hk hlt
          have S3' := S3.out.below hb
          go_wp2_with (at_builtin; refine wpList_append_fits_any _ rfl (.tmp 96) (.tmp 97) 22 rfl w2.heap.size 5 i5 1 Try.underlying22 hi hz1 _ _ _ _ rfl hown _ _ _ ((z3.take n3).map (Value.int .u8)) rfl (by simp [S3.out.2.1]) S3.out.1 S3'.cells (ints_oneCell _ _) (by omega) ?_; intro w6 hown6 hg6)
          have hMr := Mk_range x hx0
          have hlaw := rt_law x wd (z0.take n0) (z3.take n3) n0 n3 (by have := S0.out.2.1; simp; omega) (by have := S3.out.2.1; simp; omega) hx0 hx1 HJ.out
          have HB6 : Hid (Below w.heap.size w w6) := HB.out.trans ((hb.grown hg6 hb.size (by intro k hk; cases hk; exact Nat.le_refl _)).mono HB.out.size)
          have hcells := hown6.cells (g := w2.heap.size) rfl
          have hlen := hown6.1
          rw [← List.map_append] at hcells hlen
          have HW : Hid (w.heap.size ≤ w6.heap.size) := HB6.out.size
          clear hb hown S3' hown6 hg6 S3 S0 HJ HB hi hz0 hz1 hz2
          refine (zzdelta_any _ _ n0 _ (z0.take n0 ++ Bl x 8 ++ z3.take n3) 0 0 0 (Mk x 8) wd w6 hMr.1 hMr.2 hwd (by omega) (by omega) (by simp) ?_).mono ?_
          · intro ad had j hj
            obtain rfl := Option.some.inj had
            refine hcells j _ ?_
            have hj' : j < (z0.take n0 ++ Bl x 8 ++ z3.take n3).length := by rw [List.length_map] at hlen; omega
            rw [List.getElem?_map, List.getElem?_eq_getElem hj']
            rfl
          · rw [hlaw]
            clear hlaw hcells hlen
            rintro e w7 ⟨rfl, hb7⟩
            have HB7 : Hid (Below w.heap.size w w7) := HB6.out.trans (hb7.mono HW.out)
            clear hb7 HB6 HW hMr
            go_wp2
            go_ret
            exact ⟨by simp; omega, HB7.out⟩

set_option maxHeartbeats 400000 in
theorem rt_early (a0 a3 : Option Addr) (n0 c0 n3 c3 : Nat) (x wd : Int) (w : World) (h : ¬ n0 + n3 ≤ 1048576) (hn0 : n0 ≤ 9223372036854775807) (hn3 : n3 ≤ 9223372036854775807) :
    Calls Try.prog 4 #[.slice a0 n0 c0, .int .u64 x, .int .i64 wd, .slice a3 n3 c3] w fun e w' => e = .returned (.bool true) ∧ Below w.heap.size w w' := by
  go_enter Try.func4, Try.ntmps4
  go_wp2_with (go_at_call 12; refine (bytes12_false _ _ _ _ _ _ _ _ _ h hn0 hn3).mono ?_; rintro e w' ⟨rfl, rfl⟩)
  go_ret
  exact ⟨rfl, Below.refl _ _⟩

set_option maxHeartbeats 400000 in
theorem rt_wide (a0 a3 : Option Addr) (n0 c0 n3 c3 : Nat) (x wd : Int) (w : World) (h : n0 + n3 ≤ 1048576) (hwd : ¬ wd ≤ 65536) :
    Calls Try.prog 4 #[.slice a0 n0 c0, .int .u64 x, .int .i64 wd, .slice a3 n3 c3] w fun e w' => e = .returned (.bool true) ∧ Below w.heap.size w w' := by
  go_enter Try.func4, Try.ntmps4
  go_wp2_with (go_at_call 12; refine (bytes12_true _ _ _ _ _ _ _ _ _ h).mono ?_; rintro e w' ⟨rfl, rfl⟩)
  go_ret
  exact ⟨rfl, Below.refl _ _⟩
end Go.Proofs.Qxb6605873a
