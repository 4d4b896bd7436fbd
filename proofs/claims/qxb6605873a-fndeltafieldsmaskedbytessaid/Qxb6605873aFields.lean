/-
  The walk of (*deltaReader).fields (function 23).
-/
import Derived.Test.Qxb6605873aProg
import Derived.Test.Qxb6605873aFR
import Derived.WalkKit
import Derived.WalkSpells
import Derived.WalkLawsBesides
import Derived.Deep.QuietTactic
import Derived.BigQuiet
namespace Go.Proofs.Qxb6605873a
open Go.RowKit

set_option maxHeartbeats 1000000 in
theorem fields_any (p n c i0 : Nat) (ao : Option Addr) (ds : List Int) (mask width : Int) (w : World)
    (c0 : w.cell? ⟨p, 0, none⟩ = some (.slice ao n c)) (c1 : w.cell? ⟨p, 1, none⟩ = some (.int .i64 i0)) (f1 : w.frozen? ⟨p, 1, none⟩ = false)
    (hm0 : 0 ≤ mask) (hm1 : mask < 256) (hw : width ≤ 65536) (hn : n ≤ 1048600) (hi : i0 ≤ n)
    (hnone : ao = none → n = 0) (hc : ∀ ad, ao = some ad → ∀ j, j < n → (ad.add j).block ≠ p ∧ w.cell? (ad.add j) = some (.int .u8 (ds[j]?.getD 0))) :
    Calls Try.prog 23 #[.pointer (some ⟨p, 0, none⟩), .int .u8 mask, .int .i64 width] w fun e w' =>
      e = .returned (.tuple #[.int .u64 (FR mask ds n width.toNat 0 0 i0).1, .bool (FR mask ds n width.toNat 0 0 i0).2.1]) ∧
      w'.cell? ⟨p, 1, none⟩ = some (.int .i64 (FR mask ds n width.toNat 0 0 i0).2.2) ∧ w.grownBy w' (some p) := by
  generalize hR : FR mask ds n width.toNat 0 0 i0 = R
  have HR : Hid (FR mask ds n width.toNat 0 0 i0 = R) := hR
  clear hR
  go_enter Try.func23, Try.ntmps23
  go_wp2
  go_loopw [6, 10] (fun v kk wr => ∃ (k I : Nat) (V : Int), (k : Int) ≤ 65536 ∧ I ≤ n ∧ kk = .int .i64 k ∧ v = .int .u64 V ∧ wr.cell? ⟨p, 0, none⟩ = some (.slice ao n c) ∧ wr.cell? ⟨p, 1, none⟩ = some (.int .i64 I) ∧ wr.frozen? ⟨p, 1, none⟩ = false ∧ w.grownBy wr (some p) ∧ Hid (FR mask ds n (width - k).toNat k V I = R)) (fun _ i _ => (width - (intOf i)).toNat)
  case atStart => exact ⟨0, i0, 0, by omega, hi, rfl, rfl, c0, c1, f1, World.grownBy.refl _ _, by show FR _ _ _ _ _ _ _ = _; simpa using HR.out⟩
  case round =>
    obtain ⟨k, I, V, hk, hI, rfl, rfl, g0, g1, gf, hg, HF⟩ := hrel
    clear c0 c1 f1 HR
    by_cases hlt : (k : Int) < width
    · have em : (width - (k : Int)).toNat = (width - ((k + 1 : Nat) : Int)).toNat + 1 := by omega
      have HF' : Hid (FR mask ds n ((width - ((k + 1 : Nat) : Int)).toNat + 1) k V I = R) := by have := HF.out; rw [em] at this; exact this
      clear em HF
      by_cases hk8 : k < 8
      case neg =>
        have hk9 : 8 ≤ k := by omega
        have ha := and_zero_u8 mask hm0 hm1
        go_wp2
        go_roundw
        case rel => exact ⟨k + 1, I, V, by omega, hI, by go_num, rfl, g0, g1, gf, hg, by have := HF'.out; rw [FR_skip _ _ _ _ _ _ _ (Or.inl hk9)] at this; exact this⟩
        case measure => simp [intOf]; omega
      by_cases hz : (bits BinOp.and IntKind.u8 mask (2 ^ k % 256) == 0) = true
      · go_wp2
        go_roundw
        case rel => exact ⟨k + 1, I, V, by omega, hI, by go_num, rfl, g0, g1, gf, hg, by have := HF'.out; rw [FR_skip _ _ _ _ _ _ _ (Or.inr hz)] at this; exact this⟩
        case measure => simp [intOf]; omega
      · have hz' : (bits BinOp.and IntKind.u8 mask (2 ^ k % 256) == 0) = false := by simpa using hz
        clear hz
        by_cases hIn : I = n
        · have hI2 : (((I : Nat) : Int) == (n : Int)) = true := by simp; omega
          have HX : Hid (R = (0, false, I)) := by have := HF'.out; rw [FR_stop _ _ _ _ _ _ _ hk8 hz' hIn] at this; exact this.symm
          clear hIn HF'
          go_wp2
          go_quiet (fail)
          go_wp2
          go_ret2
          rw [HX.out]
          exact ⟨rfl, by simpa using g1, grownBy_drewN hg _⟩
        · have hI2 : (((I : Nat) : Int) == (n : Int)) = false := by simp; omega
          obtain ⟨ad, rfl⟩ : ∃ ad, ao = some ad := by
            cases ao with
            | none => have := hnone rfl; omega
            | some ad => exact ⟨ad, rfl⟩
          have hd0 := hc ad rfl I (by omega)
          have hd : wr.cell? (ad.add I) = some (.int .u8 (ds[I]?.getD 0)) := hg.cell hd0.2 (by simpa using hd0.1)
          have b1 : (0 : Int) ≤ (I : Int) := by omega
          have b2 : (I : Int) < (n : Int) := by omega
          have HX : Hid (FR mask ds n (width - ((k + 1 : Nat) : Int)).toNat (k + 1) (orB V (ds[I]?.getD 0) k) (I + 1) = R) := by have := HF'.out; rw [FR_take _ _ _ _ _ _ _ hk8 hz' hIn] at this; exact this
          clear hIn HF' hd0 hc hnone
          go_wp2
          go_quiet (fail)
          go_wp2
          go_quiet (fail)
          go_wp2
          go_roundw
          case rel => exact ⟨k + 1, I + 1, orB V (ds[I]?.getD 0) k, by omega, by omega, by go_num, rfl, (cell_set_off (by decide)).trans g0, cell_set_same (by simpa using g1), by simpa using gf, grownBy_setCell (grownBy_drewN hg _) _ _, HX⟩
          case measure => simp [intOf]; omega
    · have HX : Hid (R = (V, true, I)) := by
        have := HF.out
        rw [show (width - (k : Int)).toNat = 0 by omega] at this
        exact this.symm
      clear HF
      go_wp2
      go_ret2
      rw [HX.out]
      exact ⟨rfl, g1, hg⟩
end Go.Proofs.Qxb6605873a
