/-
  The walks of zzCloneU32 (15) and zzCloneInts (17): fresh copies. (Made by tools/genclone.py off the Clone text.)
-/
import Derived.Test.Qxb6605873aClone
namespace Go.Proofs.Qxb6605873a
open Go.RowKit

theorem Try.infoB43 : (Try.prog.info? 43).map (fun i => (i.zero, i.size, i.bytes)) = some (some (.int .u32 0), 1, 4) := by kernel_rfl

set_option maxHeartbeats 400000 in
theorem clone_nil32 (w : World) :
    Calls Try.prog 15 #[.slice none 0 0] w fun e w' => e = .returned (.slice none 0 0) ∧ w' = w := by
  have hn := fun w a n c n' c' => Lib.run_eql_slice_nil (P := Try.prog) w 32 43 a n c n' c' Try.underlying32
  go_enter Try.func15, Try.ntmps15
  go_wp2
  go_ret
  exact ⟨rfl, rfl⟩

set_option maxHeartbeats 400000 in
theorem clone_some32 (ad : Addr) (len cap : Nat) (zs : List Int) (w : World) (hl : len ≤ zs.length) (h20 : len ≤ 1048576)
    (hc : ∀ i, i < len → w.cell? (ad.add i) = some (.int .u32 (zs[i]?.getD 0))) :
    Calls Try.prog 15 #[.slice (some ad) len cap] w fun e w' => e = .returned (.slice (some ⟨w.heap.size, 0, none⟩) len len) ∧ w' = w.alloc (.cells (cpK .u32 zs len len) 43) := by
  have hn := fun w a n c n' c' => Lib.run_eql_slice_nil (P := Try.prog) w 32 43 a n c n' c' Try.underlying32
  have hmk := run_make_row' (P := Try.prog) 32 43 (.int .u32 0) 4 Try.underlying32 Try.infoB43 rfl .i64 .i64 len (by omega) (by omega)
  rw [cpK_zero .u32 zs] at hmk
  go_enter Try.func15, Try.ntmps15
  go_wp2
  go_loopw [4] (fun i wr => ∃ k : Nat, k ≤ len ∧ i = .int .i64 k ∧ wr = w.alloc (.cells (cpK .u32 zs len k) 43)) (fun i _ => len - (intOf i).toNat)
  case atStart => exact ⟨0, Nat.zero_le _, rfl, rfl⟩
  case round =>
    obtain ⟨k, hk, rfl, rfl⟩ := hrel
    by_cases hlt : k < len
    · have h1 := cpK_at .u32 zs len k hlt hl
      have h2 : ∀ o, (w.alloc o).cell? (ad.add k) = some (.int .u32 (zs[k]?.getD 0)) := fun o => by
        rw [World.cell?_alloc_lt w o (ad.add k) (World.block_lt_of_cell? w _ (hc k hlt))]; exact hc k hlt
      have hs := cpK_succ .u32 zs len k hlt hl
      have HS : Hid ((cpK .u32 zs len k).setIfInBounds k (.int .u32 (zs[k]?.getD 0)) = cpK .u32 zs len (k + 1)) := hs
      clear hmk hn hs
      go_wp2
      go_roundw
      case rel => exact ⟨k + 1, by omega, by go_num, by rw [HS.out]⟩
      case measure => simp [intOf]; omega
    · obtain rfl : k = len := by omega
      go_wp2
      go_ret
      exact ⟨rfl, rfl⟩

theorem clone_src32 (ao : Option Addr) (len cap : Nat) (zs : List Int) (w : World) (h : SrcAt .u32 w ao len cap zs) (h20 : len ≤ 1048576) :
    Calls Try.prog 15 #[.slice ao len cap] w fun e w' => ∃ ao' c', e = .returned (.slice ao' len c') ∧ SrcAt .u32 w' ao' len c' zs ∧ Below w.heap.size w w' := by
  cases ao with
  | none =>
    obtain ⟨rfl, rfl⟩ := h.1 rfl
    refine (clone_nil32 w).mono ?_
    rintro e w' ⟨rfl, rfl⟩
    exact ⟨none, 0, rfl, h, Below.refl _ _⟩
  | some ad =>
    refine (clone_some32 ad len cap zs w h.2.1 h20 (h.2.2 ad rfl)).mono ?_
    rintro e w' ⟨rfl, rfl⟩
    refine ⟨_, _, rfl, ⟨by simp, h.2.1, ?_⟩, (Below.refl _ _).alloc (Nat.le_refl _) _⟩
    intro ad' had j hj
    obtain rfl := Option.some.inj had
    have := cpK_get .u32 zs len j hj h.2.1
    simp [Addr.add_lit, this, go_sem]

theorem Try.infoB3 : (Try.prog.info? 3).map (fun i => (i.zero, i.size, i.bytes)) = some (some (.int .i64 0), 1, 8) := by kernel_rfl

set_option maxHeartbeats 400000 in
theorem clone_nilI (w : World) :
    Calls Try.prog 17 #[.slice none 0 0] w fun e w' => e = .returned (.slice none 0 0) ∧ w' = w := by
  have hn := fun w a n c n' c' => Lib.run_eql_slice_nil (P := Try.prog) w 34 3 a n c n' c' Try.underlying34
  go_enter Try.func17, Try.ntmps17
  go_wp2
  go_ret
  exact ⟨rfl, rfl⟩

set_option maxHeartbeats 400000 in
theorem clone_someI (ad : Addr) (len cap : Nat) (zs : List Int) (w : World) (hl : len ≤ zs.length) (h20 : len ≤ 1048576)
    (hc : ∀ i, i < len → w.cell? (ad.add i) = some (.int .i64 (zs[i]?.getD 0))) :
    Calls Try.prog 17 #[.slice (some ad) len cap] w fun e w' => e = .returned (.slice (some ⟨w.heap.size, 0, none⟩) len len) ∧ w' = w.alloc (.cells (cpK .i64 zs len len) 3) := by
  have hn := fun w a n c n' c' => Lib.run_eql_slice_nil (P := Try.prog) w 34 3 a n c n' c' Try.underlying34
  have hmk := run_make_row' (P := Try.prog) 34 3 (.int .i64 0) 8 Try.underlying34 Try.infoB3 rfl .i64 .i64 len (by omega) (by omega)
  rw [cpK_zero .i64 zs] at hmk
  go_enter Try.func17, Try.ntmps17
  go_wp2
  go_loopw [4] (fun i wr => ∃ k : Nat, k ≤ len ∧ i = .int .i64 k ∧ wr = w.alloc (.cells (cpK .i64 zs len k) 3)) (fun i _ => len - (intOf i).toNat)
  case atStart => exact ⟨0, Nat.zero_le _, rfl, rfl⟩
  case round =>
    obtain ⟨k, hk, rfl, rfl⟩ := hrel
    by_cases hlt : k < len
    · have h1 := cpK_at .i64 zs len k hlt hl
      have h2 : ∀ o, (w.alloc o).cell? (ad.add k) = some (.int .i64 (zs[k]?.getD 0)) := fun o => by
        rw [World.cell?_alloc_lt w o (ad.add k) (World.block_lt_of_cell? w _ (hc k hlt))]; exact hc k hlt
      have hs := cpK_succ .i64 zs len k hlt hl
      have HS : Hid ((cpK .i64 zs len k).setIfInBounds k (.int .i64 (zs[k]?.getD 0)) = cpK .i64 zs len (k + 1)) := hs
      clear hmk hn hs
      go_wp2
      go_roundw
      case rel => exact ⟨k + 1, by omega, by go_num, by rw [HS.out]⟩
      case measure => simp [intOf]; omega
    · obtain rfl : k = len := by omega
      go_wp2
      go_ret
      exact ⟨rfl, rfl⟩

theorem clone_srcI (ao : Option Addr) (len cap : Nat) (zs : List Int) (w : World) (h : SrcAt .i64 w ao len cap zs) (h20 : len ≤ 1048576) :
    Calls Try.prog 17 #[.slice ao len cap] w fun e w' => ∃ ao' c', e = .returned (.slice ao' len c') ∧ SrcAt .i64 w' ao' len c' zs ∧ Below w.heap.size w w' := by
  cases ao with
  | none =>
    obtain ⟨rfl, rfl⟩ := h.1 rfl
    refine (clone_nilI w).mono ?_
    rintro e w' ⟨rfl, rfl⟩
    exact ⟨none, 0, rfl, h, Below.refl _ _⟩
  | some ad =>
    refine (clone_someI ad len cap zs w h.2.1 h20 (h.2.2 ad rfl)).mono ?_
    rintro e w' ⟨rfl, rfl⟩
    refine ⟨_, _, rfl, ⟨by simp, h.2.1, ?_⟩, (Below.refl _ _).alloc (Nat.le_refl _) _⟩
    intro ad' had j hj
    obtain rfl := Option.some.inj had
    have := cpK_get .i64 zs len j hj h.2.1
    simp [Addr.add_lit, this, go_sem]


end Go.Proofs.Qxb6605873a
