/-
  zzBytes_FnCheckLookupAcceptsWrittenTable (21), zzEntriesPremise (22).
-/
import Derived.Test.Qxb6605873aLk0
import Derived.Deep.CutRange
namespace Go.Proofs.Qxb6605873a
open Go.RowKit
set_option linter.unusedSimpArgs false
set_option linter.unusedVariables false

set_option maxHeartbeats 2000000 in
theorem bytes21 (a0 a1 a2 : Option Addr) (n0 c0 n1 c1 n2 c2 : Nat) (a3 a4 a5 : Int) (w : World) :
    Calls Try.prog 21 #[.slice a0 n0 c0, .slice a1 n1 c1, .slice a2 n2 c2, .int .i64 a3, .int .u8 a4, .int .u32 a5] w fun e w' => ∃ b, e = .returned (.bool b) ∧ w = w' := by
  by_cases h0 : n0 ≤ 1048576
  · by_cases h1 : n1 ≤ 1048576
    · by_cases h01 : n0 + n1 ≤ 1048576
      · by_cases h2 : n2 ≤ 1048576
        · by_cases h012 : n0 + n1 + n2 ≤ 1048576
          · go_enter Try.func21, Try.ntmps21
            go_wp2
            go_ret
            exact ⟨_, rfl, rfl⟩
          · go_enter Try.func21, Try.ntmps21
            go_wp2
            go_ret
            exact ⟨_, rfl, rfl⟩
        · go_enter Try.func21, Try.ntmps21
          go_wp2
          go_ret
          exact ⟨_, rfl, rfl⟩
      · go_enter Try.func21, Try.ntmps21
        go_wp2
        go_ret
        exact ⟨_, rfl, rfl⟩
    · go_enter Try.func21, Try.ntmps21
      go_wp2
      go_ret
      exact ⟨_, rfl, rfl⟩
  · go_enter Try.func21, Try.ntmps21
    go_wp2
    go_ret
    exact ⟨_, rfl, rfl⟩

/-- What zzEntriesPremise asks of the entries. -/
structure Prem (n : Nat) (xor off : Nat → Int) : Prop where
  x : ∀ i, i < n → xor i ≤ i
  o : ∀ i, i < n → 0 ≤ off i

theorem Prem.next {n : Nat} {xor off : Nat → Int} (h : Prem n xor off) (h1 : xor n ≤ n) (h2 : 0 ≤ off n) : Prem (n + 1) xor off :=
  ⟨fun i hi => by
    by_cases e : i = n
    · subst e; exact h1
    · exact h.x i (by omega), fun i hi => by
    by_cases e : i = n
    · subst e; exact h2
    · exact h.o i (by omega)⟩

/-- What zzEntriesPremise comes to. -/
def PremPost (n : Nat) (xor off : Nat → Int) (w : World) (e : Ending) (w' : World) : Prop := ∃ b, e = .returned (.bool b) ∧ Below w.heap.size w w' ∧ (b = true → Prem n xor off)

set_option maxHeartbeats 2000000 in
theorem prem_some (a0 : Option Addr) (ad1 ad2 : Addr) (n c0 c1 c2 : Nat) (xor off : Nat → Int) (w : World) (hn : n ≤ 1048576)
    (hx0 : ∀ j, j < n → 0 ≤ xor j ∧ xor j < 256)
    (hc1 : ∀ j, j < n → w.cell? (ad1.add j) = some (.int .u8 (xor j))) (hc2 : ∀ j, j < n → w.cell? (ad2.add j) = some (.int .i64 (off j))) :
    Calls Try.prog 22 #[.slice a0 n c0, .slice (some ad1) n c1, .slice (some ad2) n c2] w (PremPost n xor off w) := by
  have HC1 := hidU hc1
  have HC2 := hidU hc2
  clear hc1 hc2
  go_enter Try.func22, Try.ntmps22
  go_wp2_with fail
  go_loopw [8] (fun v8 wr => ∃ (k : Nat), v8 = .int .i64 k ∧ k ≤ n ∧ Hid (Below w.heap.size w wr) ∧ Hid (Prem k xor off)) (fun v8 _ => n - (intOf v8).toNat)
  case atStart => exact ⟨0, rfl, by omega, Below.refl _ _, hidU ⟨fun i hi => by omega, fun i hi => by omega⟩⟩
  case round =>
    obtain ⟨k, rfl, hk, HB, HP⟩ := hrel
    have hc1 : ∀ j, j < n → wr.cell? (ad1.add j) = some (.int .u8 (xor j)) := fun j hj => (HB.out.cell (World.block_lt_of_cell? w _ (HC1.out j hj))).trans (HC1.out j hj)
    have hc2 : ∀ j, j < n → wr.cell? (ad2.add j) = some (.int .i64 (off j)) := fun j hj => (HB.out.cell (World.block_lt_of_cell? w _ (HC2.out j hj))).trans (HC2.out j hj)
    by_cases hlt : k < n
    · have hb := hx0 k hlt
      by_cases h1 : xor k ≤ k
      · by_cases h2 : 0 ≤ off k
        · go_upto_region 9 with fail
          by_cases h3 : 0 < k
          · have hk1 : k - 1 < n := by omega
            by_cases h4 : off k ≤ off (k - 1)
            · go_quiet (fail)
              go_wp2_with fail
              go_ret
              exact ⟨false, rfl, Below.drewN' HB.out _, by simp⟩
            · go_quiet (fail)
              go_wp2_with fail
              go_roundw
              case rel => exact ⟨k + 1, by go_num, by omega, Below.drewN' HB.out _, hidU (HP.out.next h1 h2)⟩
              case measure => simp [intOf]; omega
          · have hkz : decide ((0 : Int) < k) = false := by simp; omega
            go_quiet (fail)
            go_wp2_with fail
            go_roundw
            case rel => exact ⟨k + 1, by go_num, by omega, Below.drewN' HB.out _, hidU (HP.out.next h1 h2)⟩
            case measure => simp [intOf]; omega
        · go_wp2_with fail
          go_ret
          exact ⟨false, rfl, HB.out, by simp⟩
      · go_wp2_with fail
        go_ret
        exact ⟨false, rfl, HB.out, by simp⟩
    · go_wp2_with fail
      go_ret
      exact ⟨true, rfl, HB.out, fun _ => ⟨fun i hi => HP.out.x i (by omega), fun i hi => HP.out.o i (by omega)⟩⟩

set_option maxHeartbeats 2000000 in
theorem prem_zero (a0 a1 a2 : Option Addr) (c0 c1 c2 : Nat) (xor off : Nat → Int) (w : World) :
    Calls Try.prog 22 #[.slice a0 0 c0, .slice a1 0 c1, .slice a2 0 c2] w (PremPost 0 xor off w) := by
  go_enter Try.func22, Try.ntmps22
  go_wp2_with fail
  go_loopw [8] (fun v8 wr => v8 = .int .i64 0 ∧ Hid (Below w.heap.size w wr)) (fun v8 _ => 0)
  case atStart => exact ⟨rfl, Below.refl _ _⟩
  case round =>
    obtain ⟨rfl, HB⟩ := hrel
    go_wp2_with fail
    go_ret
    exact ⟨true, rfl, HB.out, fun _ => ⟨fun i hi => by omega, fun i hi => by omega⟩⟩

set_option maxHeartbeats 2000000 in
theorem prem_len (a0 a1 a2 : Option Addr) (n0 n1 n2 c0 c1 c2 : Nat) (xor off : Nat → Int) (w : World) (h0 : n0 ≤ 1048576) (h1 : n1 ≤ 1048576) (h2 : n2 ≤ 1048576) (h : ¬ (n1 = n0 ∧ n2 = n0)) :
    Calls Try.prog 22 #[.slice a0 n0 c0, .slice a1 n1 c1, .slice a2 n2 c2] w fun e w' => e = .returned (.bool false) ∧ w = w' := by
  by_cases e1 : n1 = n0
  · subst e1
    have e2 : ¬ n2 = n1 := fun e => h ⟨rfl, e⟩
    have e2' : ¬ (n2 : Int) = n1 := by omega
    clear h
    go_enter Try.func22, Try.ntmps22
    go_wp2_with fail
    go_ret
    exact ⟨rfl, rfl⟩
  · have e2' : ¬ (n1 : Int) = n0 := by omega
    clear h
    go_enter Try.func22, Try.ntmps22
    go_wp2_with fail
    go_ret
    exact ⟨rfl, rfl⟩

theorem prem_u (a0 a1 a2 : Option Addr) (n c0 c1 c2 : Nat) (xor off : Nat → Int) (w : World) (hn : n ≤ 1048576)
    (hx0 : ∀ j, j < n → 0 ≤ xor j ∧ xor j < 256) (h1 : Src .u8 w a1 n xor) (h2 : Src .i64 w a2 n off) :
    Calls Try.prog 22 #[.slice a0 n c0, .slice a1 n c1, .slice a2 n c2] w (PremPost n xor off w) := by
  by_cases h0 : n = 0
  · subst h0; exact prem_zero a0 a1 a2 c0 c1 c2 xor off w
  · obtain ⟨ad1, rfl, hc1⟩ := h1.some (by omega)
    obtain ⟨ad2, rfl, hc2⟩ := h2.some (by omega)
    exact prem_some a0 ad1 ad2 n c0 c1 c2 xor off w hn hx0 hc1 hc2
end Go.Proofs.Qxb6605873a
