/-
  CheckLookup (24).
-/
import Derived.Test.Qxb6605873aLk4
namespace Go.Proofs.Qxb6605873a
open Go.RowKit Go.Sort
set_option linter.unusedSimpArgs false
set_option linter.unusedVariables false

/-- What CheckLookup comes to: the first of the n rows that is not the wanted one, or none. -/
def CheckPost (n : Nat) (pos : Nat → Int) (xor : Nat → Nat) (off : Nat → Int) (P O X : Nat → Int) (w : World) (e : Ending) (w' : World) : Prop :=
  RowKit.Below w.heap.size w w' ∧ ∃ σ r : Nat → Nat, Ord n (keyOf pos) σ ∧ (∀ q, q < n → r (σ q) = q) ∧
    ((e = .returned (.tuple #[.int .i64 0, .bool true]) ∧ ∀ q, q < n → P q = pos (σ q) ∧ O q = off (σ q) ∧ X q = rowX xor r (σ q)) ∨
     ∃ q : Nat, q < n ∧ e = .returned (.tuple #[.int .i64 q, .bool false]) ∧ (∀ t, t < q → P t = pos (σ t) ∧ O t = off (σ t) ∧ X t = rowX xor r (σ t)) ∧ ¬ (P q = pos (σ q) ∧ O q = off (σ q) ∧ X q = rowX xor r (σ q)))

set_option maxHeartbeats 8000000 in
set_option maxRecDepth 100000 in
theorem check_u (gf gl ge n : Nat) (pos : Nat → Int) (xor : Nat → Nat) (off : Nat → Int) (P O X : Nat → Int) (w : World) (hE : EntF w ge n pos xor off) (hL : RowR w gl n P O X)
    (hn : n ≤ 1048576) (hp : ∀ i, i < n → 0 ≤ pos i ∧ pos i < 4294967296) (hx : ∀ i, i < n → xor i ≤ i) (ho : ∀ i, i < n → 0 ≤ off i ∧ off i ≤ 9223372036854775807)
    (hf1 : w.cell? ⟨gf, 38, none⟩ = some (.slice (some ⟨gl, 0, none⟩) n n)) (hf2 : w.cell? ⟨gf, 39, none⟩ = some (.slice (some ⟨ge, 0, none⟩) n n)) :
    Calls Try.prog 24 #[.pointer (some ⟨gf, 0, none⟩)] w (CheckPost n pos xor off P O X w) := by
  have HL := hidU hL
  have HF1 := hidU hf1
  have hgf := World.block_lt_of_cell? w _ hf1
  have HC := rows_u ge n n pos xor off w hE hn hp hx ho
  have HC := hidU HC
  clear hE hL hp hx ho
  go_enter Try.func24, Try.ntmps24
  go_wp2_with fail
  refine HC.out.mono ?_
  rintro e w2 ⟨gw, rfl, hgw, hb, σ, r, o1, o2, hR⟩
  have hf1' : w2.cell? ⟨gf, 38, none⟩ = some (.slice (some ⟨gl, 0, none⟩) n n) := (hb.cell hgf).trans HF1.out
  have HL2 := hidU (HL.out.below hb HL.out.lt)
  have HW := hidU hR
  have HB := hidU hb
  have HO := hidU o1
  have HO2 := hidU o2
  clear HL HF1 HC hf1 hf2 hb o1 o2 hR
  go_wp2_with fail
  go_loopw [17] (fun v17 wz => ∃ (q : Nat), v17 = .int .i64 q ∧ q ≤ n ∧ Hid (RowKit.Below w.heap.size w wz) ∧ Hid (RowR wz gl n P O X) ∧ Hid (RowR wz gw n (fun q => pos (σ q)) (fun q => off (σ q)) (fun q => rowX xor r (σ q))) ∧ Hid (∀ t, t < q → P t = pos (σ t) ∧ O t = off (σ t) ∧ X t = rowX xor r (σ t))) (fun v17 _ => n - (intOf v17).toNat)
  case atStart => exact ⟨0, rfl, Nat.zero_le _, HB, HL2, HW, fun t ht => by omega⟩
  case round =>
    clear HB HL2 HW hf1'
    obtain ⟨q, rfl, hq, HB, HL, HW, HV⟩ := hrel
    by_cases hqn : q < n
    · obtain ⟨a0, a1, a2⟩ := HL.out.cell q hqn
      obtain ⟨b0, b1, b2⟩ := HW.out.cell q hqn
      have l1 := HL.out.lt
      have l2 := HW.out.lt
      go_upto_region 5 with fail
      by_cases c0 : P q = pos (σ q)
      · by_cases c1 : O q = off (σ q)
        · by_cases c2 : X q = rowX xor r (σ q)
          · go_quiet (fail)
            go_wp2_with fail
            go_roundw
            case rel =>
              refine ⟨q + 1, by go_num, by omega, Below.drewN' (Below.alloc' HB.out HB.out.size _) _, (HL.out.alloc _).drewN _, (HW.out.alloc _).drewN _, ?_⟩
              intro t ht
              by_cases e : t = q
              · subst e; exact ⟨c0, c1, c2⟩
              · exact HV.out t (by omega)
            case measure => simp [intOf]; omega
          · go_quiet (fail)
            go_wp2_with fail
            go_ret2
            exact ⟨Below.drewN' (Below.alloc' HB.out HB.out.size _) _, σ, r, HO.out, HO2.out, Or.inr ⟨q, hqn, rfl, HV.out, fun h => c2 h.2.2⟩⟩
        · go_quiet (fail)
          go_wp2_with fail
          go_ret2
          exact ⟨Below.drewN' (Below.alloc' HB.out HB.out.size _) _, σ, r, HO.out, HO2.out, Or.inr ⟨q, hqn, rfl, HV.out, fun h => c1 h.2.1⟩⟩
      · go_quiet (fail)
        go_wp2_with fail
        go_ret2
        exact ⟨Below.drewN' (Below.alloc' HB.out HB.out.size _) _, σ, r, HO.out, HO2.out, Or.inr ⟨q, hqn, rfl, HV.out, fun h => c0 h.1⟩⟩
    · have hqe : n ≤ q := by omega
      go_wp2_with fail
      go_ret2
      exact ⟨HB.out, σ, r, HO.out, HO2.out, Or.inl ⟨rfl, fun t ht => HV.out t (by omega)⟩⟩
end Go.Proofs.Qxb6605873a
