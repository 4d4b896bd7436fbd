/-
  The walk of zzCloneBytes (function 8): a fresh copy of a slice of bytes.
-/
import Derived.Test.Qxb6605873aProg
import Derived.Test.Qxb6605873aCp
import Derived.WalkKit
import Derived.WalkSpells
import Derived.WalkLawsBesides
import Derived.Deep.OwnRows
namespace Go.Proofs.Qxb6605873a
open Go.RowKit

theorem Try.infoB5 : (Try.prog.info? 5).map (fun i => (i.zero, i.size, i.bytes)) = some (some (.int .u8 0), 1, 1) := by kernel_rfl

set_option maxHeartbeats 400000 in
theorem clone_nil (w : World) :
    Calls Try.prog 8 #[.slice none 0 0] w fun e w' => e = .returned (.slice none 0 0) ∧ w' = w := by
  have hn := fun w a n c n' c' => Lib.run_eql_slice_nil (P := Try.prog) w 22 5 a n c n' c' Try.underlying22
  go_enter Try.func8, Try.ntmps8
  go_wp2
  go_ret
  exact ⟨rfl, rfl⟩

set_option maxHeartbeats 400000 in
theorem clone_some (ad : Addr) (len cap : Nat) (zs : List Int) (w : World) (hl : len ≤ zs.length) (h20 : len ≤ 1048576)
    (hc : ∀ i, i < len → w.cell? (ad.add i) = some (.int .u8 (zs[i]?.getD 0))) :
    Calls Try.prog 8 #[.slice (some ad) len cap] w fun e w' => e = .returned (.slice (some ⟨w.heap.size, 0, none⟩) len len) ∧ w' = w.alloc (.cells (cpK .u8 zs len len) 5) := by
  have hn := fun w a n c n' c' => Lib.run_eql_slice_nil (P := Try.prog) w 22 5 a n c n' c' Try.underlying22
  have hmk := run_make_row' (P := Try.prog) 22 5 (.int .u8 0) 1 Try.underlying22 Try.infoB5 rfl .i64 .i64 len (by omega) (by omega)
  rw [cpK_zero .u8 zs] at hmk
  go_enter Try.func8, Try.ntmps8
  go_wp2
  go_loopw [4] (fun i wr => ∃ k : Nat, k ≤ len ∧ i = .int .i64 k ∧ wr = w.alloc (.cells (cpK .u8 zs len k) 5)) (fun i _ => len - (intOf i).toNat)
  case atStart => exact ⟨0, Nat.zero_le _, rfl, rfl⟩
  case round =>
    obtain ⟨k, hk, rfl, rfl⟩ := hrel
    by_cases hlt : k < len
    · have h1 := cpK_at .u8 zs len k hlt hl
      have h2 : ∀ o, (w.alloc o).cell? (ad.add k) = some (.int .u8 (zs[k]?.getD 0)) := fun o => by
        rw [World.cell?_alloc_lt w o (ad.add k) (World.block_lt_of_cell? w _ (hc k hlt))]; exact hc k hlt
      have hs := cpK_succ .u8 zs len k hlt hl
      have HS : Hid ((cpK .u8 zs len k).setIfInBounds k (.int .u8 (zs[k]?.getD 0)) = cpK .u8 zs len (k + 1)) := hs
      clear hmk hn hs
      go_wp2
      go_roundw
      case rel => exact ⟨k + 1, by omega, by go_num, by rw [HS.out]⟩
      case measure => simp [intOf]; omega
    · obtain rfl : k = len := by omega
      go_wp2
      go_ret
      exact ⟨rfl, rfl⟩

/-- WHAT IS TOLD OF A SLICE OF INTEGERS, nil or not: its elements are the first 'len' of zs. -/
def SrcAt (k : IntKind) (w : World) (ao : Option Addr) (len cap : Nat) (zs : List Int) : Prop :=
  (ao = none → len = 0 ∧ cap = 0) ∧ len ≤ zs.length ∧ ∀ ad, ao = some ad → ∀ j, j < len → w.cell? (ad.add j) = some (.int k (zs[j]?.getD 0))

theorem SrcAt.below {k : IntKind} {w w' : World} {ao : Option Addr} {len cap : Nat} {zs : List Int} (h : SrcAt k w ao len cap zs) (hb : Below w.heap.size w w') : SrcAt k w' ao len cap zs :=
  ⟨h.1, h.2.1, fun ad ha j hj => (hb.cell (World.block_lt_of_cell? w _ (h.2.2 ad ha j hj))).trans (h.2.2 ad ha j hj)⟩

theorem SrcAt.cells {k : IntKind} {w : World} {ao : Option Addr} {len cap : Nat} {zs : List Int} (h : SrcAt k w ao len cap zs) :
    ∀ ad, ao = some ad → ∀ j u, ((zs.take len).map (Value.int k))[j]? = some u → w.cell? (ad.add j) = some u := by
  intro ad ha j u hu
  have hj : j < len := by
    have := (List.getElem?_eq_some_iff.1 hu).1
    simp at this; omega
  rw [h.2.2 ad ha j hj, ← hu]
  simp [hj, List.getElem?_eq_getElem (show j < zs.length by have := h.2.1; omega)]

theorem clone_src (ao : Option Addr) (len cap : Nat) (zs : List Int) (w : World) (h : SrcAt .u8 w ao len cap zs) (h20 : len ≤ 1048576) :
    Calls Try.prog 8 #[.slice ao len cap] w fun e w' => ∃ ao' c', e = .returned (.slice ao' len c') ∧ SrcAt .u8 w' ao' len c' zs ∧ Below w.heap.size w w' := by
  cases ao with
  | none =>
    obtain ⟨rfl, rfl⟩ := h.1 rfl
    refine (clone_nil w).mono ?_
    rintro e w' ⟨rfl, rfl⟩
    exact ⟨none, 0, rfl, h, Below.refl _ _⟩
  | some ad =>
    refine (clone_some ad len cap zs w h.2.1 h20 (h.2.2 ad rfl)).mono ?_
    rintro e w' ⟨rfl, rfl⟩
    refine ⟨_, _, rfl, ⟨by simp, h.2.1, ?_⟩, (Below.refl _ _).alloc (Nat.le_refl _) _⟩
    intro ad' had j hj
    obtain rfl := Option.some.inj had
    have := cpK_get .u8 zs len j hj h.2.1
    simp [Addr.add_lit, this, go_sem]

end Go.Proofs.Qxb6605873a
