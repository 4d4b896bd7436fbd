/-
  The proof of 'Rows.FnCheckLookupAcceptsWrittenTableSaid': the frame as the skeleton tool wrote it; the walk's theorems lie in Qxb6605873aLkZ.
-/
import Derived.Test.Qxb6605873aRows
import Derived.WalkKit
import Derived.ProofKit
import Derived.OpenShut
import Derived.ShutString
import Derived.ChangeOld
import Derived.Below
import Derived.Test.Qxb6605873aLkZ
namespace Go.Proofs.Qxb6605873a.fnCheckLookupAcceptsWrittenTable
open Go.ChangeShapes Go.WideShapes Go.ChangeAt Go.RowKit
open Go.ChangeMaps (open_string shut_string)
set_option linter.unusedVariables false

theorem own : ownKnob Try.prog.godebug = none := by kernel_rfl
theorem laidOut : laidOutB Try.prog = true := by kernel_rfl

/-- WHAT THE WALK IS TOLD OF A SLICE OF INTEGERS THAT CAME IN: it is nil; or it leads to a row of 'cap' cells, the numbers 'zs' (the first 'len' are its elements, the rest its spare room), each fitting its kind. -/
def IsRow (k : IntKind) (w : World) (a : Option Addr) (len cap : Nat) (zs : List Int) : Prop :=
  (a = none ∧ len = 0 ∧ cap = 0 ∧ zs = []) ∨
  ∃ x, a = some x ∧ len ≤ cap ∧ cap ≤ maxLen ∧ zs.length = cap ∧ (∀ i, i < zs.length → w.cell? (x.add i) = some (.int k (zs.getD i 0))) ∧ ∀ n ∈ zs, (Lit.int k n).wf = true

/-! ### STEP 1: THE WALK: the Go text returns true, AND WRITES NOTHING THAT WAS THERE: 'Below w.heap.size w w'' (Derived/Below.lean: '.refl', '.alloc', '.drew', '.setCell' at a new block, '.trans'). Open each 'IsRow' by 'rcases' AHEAD of 'go_enter'; part every test ahead of the walk. -/
theorem walk (a0 : Option Addr) (len0 cap0 : Nat) (z0 : List Int) (a1 : Option Addr) (len1 cap1 : Nat) (z1 : List Int) (a2 : Option Addr) (len2 cap2 : Nat) (z2 : List Int) (a3 : Int) (a4 : Int) (a5 : Int) (w : World) (w0 : IsRow .u32 w a0 len0 cap0 z0) (w1 : IsRow .u8 w a1 len1 cap1 z1) (w2 : IsRow .i64 w a2 len2 cap2 z2) (w3 : (Lit.int .i64 a3).wf = true) (w4 : (Lit.int .u8 a4).wf = true) (w5 : (Lit.int .u32 a5).wf = true) :
    Calls Try.prog 6 #[.slice a0 len0 cap0, .slice a1 len1 cap1, .slice a2 len2 cap2, .int .i64 a3, .int .u8 a4, .int .u32 a5] w fun e w' => e = .returned (.bool true) ∧ Below w.heap.size w w' := by
  obtain ⟨hh0, hh1⟩ := bounds_u8 w4
  obtain ⟨hd0, hd1⟩ := bounds_u32 w5
  have src : ∀ (k : IntKind) (a : Option Addr) (len cap : Nat) (zs : List Int), IsRow k w a len cap zs → SrcAt k w a len cap zs ∧ ∀ j, j < len → (Lit.int k (zs[j]?.getD 0)).wf = true := by
    intro k a len cap zs h
    rcases h with ⟨rfl, rfl, rfl, rfl⟩ | ⟨ad, rfl, hl, hm, hz, hc, hwf⟩
    · exact ⟨⟨fun _ => ⟨rfl, rfl⟩, Nat.le_refl _, fun ad h => (by cases h)⟩, fun j hj => by omega⟩
    · refine ⟨⟨fun h => (by cases h), by omega, fun ad' h j hj => ?_⟩, fun j hj => ?_⟩
      · obtain rfl := Option.some.inj h
        exact hc j (by omega)
      · rw [List.getElem?_eq_getElem (show j < zs.length by omega)]
        exact hwf _ (List.getElem_mem _)
  obtain ⟨s0, b0⟩ := src .u32 a0 len0 cap0 z0 w0
  obtain ⟨s1, b1⟩ := src .u8 a1 len1 cap1 z1 w1
  obtain ⟨s2, b2⟩ := src .i64 a2 len2 cap2 z2 w2
  clear src w0 w1 w2
  have hp : ∀ j, j < len0 → 0 ≤ z0[j]?.getD 0 ∧ z0[j]?.getD 0 < 4294967296 := fun j hj => by
    have := bounds_u32 (b0 j hj); omega
  have hx : ∀ j, j < len1 → 0 ≤ z1[j]?.getD 0 ∧ z1[j]?.getD 0 < 256 := fun j hj => by
    have := bounds_u8 (b1 j hj); omega
  have ho : ∀ j, j < len2 → z2[j]?.getD 0 ≤ 9223372036854775807 := fun j hj => by
    have := bounds_i64 (b2 j hj); omega
  clear b0 b1 b2
  by_cases hA : len0 ≤ 1048576 ∧ len1 ≤ 1048576 ∧ len2 ≤ 1048576 ∧ 8 * (len0 + len2) + len1 ≤ 1048576
  · by_cases hL : len1 = len0 ∧ len2 = len0
    · obtain ⟨e1, e2⟩ := hL
      subst e1
      subst e2
      have h17 := hA.2.2.2
      by_cases hs : a4 < 3
      · by_cases hb : a3 < 0 ∨ (len2 : Int) ≤ a3 ∨ a5 = 0
        · exact early_spoil _ _ _ _ _ _ _ _ _ _ _ _ _ h17 hx (Src.of s1) (Src.of s2) hh0 hs hb
        · have hn0 : 0 < len2 := by omega
          obtain ⟨d0, rfl, k0⟩ := (Src.of s0).some hn0
          obtain ⟨d1, rfl, k1⟩ := (Src.of s1).some hn0
          obtain ⟨d2, rfl, k2⟩ := (Src.of s2).some hn0
          obtain ⟨k, rfl⟩ : ∃ k : Nat, a3 = k := ⟨a3.toNat, by omega⟩
          have h012 : a4 = 0 ∨ a4 = 1 ∨ a4 = 2 := by omega
          rcases h012 with rfl | rfl | rfl
          · exact main_0 _ _ _ _ _ _ _ _ _ _ _ _ _ h17 s0.2.1 s1.2.1 s2.2.1 k0 k1 k2 hp hx ho (by omega) (by omega) (by omega)
          · exact main_1 _ _ _ _ _ _ _ _ _ _ _ _ _ h17 s0.2.1 s1.2.1 s2.2.1 k0 k1 k2 hp hx ho (by omega) (by omega) (by omega)
          · exact main_2 _ _ _ _ _ _ _ _ _ _ _ _ _ h17 s0.2.1 s1.2.1 s2.2.1 k0 k1 k2 hp hx ho (by omega) (by omega) (by omega)
      · by_cases hz : len2 = 0
        · exact main_zero _ _ _ _ _ _ _ _ _ _ _ _ _ _ hz (by omega) h17 s0 s1 s2 (by omega) (by omega)
        · have hn0 : 0 < len2 := by omega
          obtain ⟨d0, rfl, k0⟩ := (Src.of s0).some hn0
          obtain ⟨d1, rfl, k1⟩ := (Src.of s1).some hn0
          obtain ⟨d2, rfl, k2⟩ := (Src.of s2).some hn0
          exact main_n _ _ _ _ _ _ _ _ _ _ _ _ _ _ h17 s0.2.1 s1.2.1 s2.2.1 k0 k1 k2 hp hx ho (by omega) (by omega)
    · exact early_len _ _ _ _ _ _ _ _ _ _ _ _ _ hA.2.2.2 hL
  · exact early_big _ _ _ _ _ _ _ _ _ _ _ _ _ hA

/-! ### THE ROW's STEP: WRITTEN OUT: LEAVE IT -/
set_option maxRecDepth 100000 in
theorem lifted (os : Os) (started : os.Started) (H : Type) (enc : TypeId × Value → H) :
    ReturnsInHanded {} Try.checked os 6 .any (Rows.fnCheckLookupAcceptsWrittenTableSpec.pre6 enc Try.prog Try.f6 Rows.fnCheckLookupAcceptsWrittenTableRow.domain false) (Rows.fnCheckLookupAcceptsWrittenTableSpec.post enc Try.prog Try.f6 false true false false) := by
  refine returnsInHanded_of_change (C := Try.checked) own started (by kernel_rfl) Try.func6
    (ChangeSpec.witness6 (enc := enc) (C := Try.checked) false ⟨#[], #[.slice none 0 0, .slice none 0 0, .slice none 0 0, .int .i64 0, .int .u8 0, .int .u32 0], []⟩ 8 (by kernel_rfl) (by kernel_rfl) (by kernel_rfl) (by kernel_rfl)) ?_
  intro W base args ds gs before hval0 hW hcnd _
  have hval : ∀ (j : Nat) t v, Try.f6.params[j]? = some t → args[j]? = some v → Value.okWide Try.prog W .any base t v := hval0
  have hW' := hW
  obtain ⟨p, q, hA0, hV, rfl, hfz, hnd⟩ := hW
  have hA : DataW.TrodAll enc Try.prog W 0 (fun _ => true) true Try.f6.params.toList args.toList ds p := hA0
  rw [Try.params6] at hA hval
  obtain ⟨v0, vs0, d0, ds0, p0, q0, hargs, rfl, rfl, h0, r0⟩ := trodAll_cons hA
  obtain ⟨v1, vs1, d1, ds1, p1, q1, rfl, rfl, rfl, h1, r1⟩ := trodAll_cons r0
  obtain ⟨v2, vs2, d2, ds2, p2, q2, rfl, rfl, rfl, h2, r2⟩ := trodAll_cons r1
  obtain ⟨v3, vs3, d3, ds3, p3, q3, rfl, rfl, rfl, h3, r3⟩ := trodAll_cons r2
  obtain ⟨v4, vs4, d4, ds4, p4, q4, rfl, rfl, rfl, h4, r4⟩ := trodAll_cons r3
  obtain ⟨v5, vs5, d5, ds5, p5, q5, rfl, rfl, rfl, h5, r5⟩ := trodAll_cons r4
  obtain ⟨rfl, rfl, rfl⟩ := trodAll_nil r5
  obtain rfl : args = #[v0, v1, v2, v3, v4, v5] := by cases args; simp_all
  obtain ⟨rfl, rfl⟩ := trodVars_none hV
  obtain ⟨a0, len0, cap0, rfl⟩ := okWide_slice Try.underlying32 (hval 0 32 v0 rfl rfl)
  have k0 := h0
  have lt0 : ∀ x ∈ p0, x.block < W.heap.size := by obtain ⟨m, hm⟩ := k0; exact DataW.trod_lt m _ _ _ hm
  obtain ⟨z0, w0⟩ : ∃ zs, IsRow .u32 W a0 len0 cap0 zs := by
    obtain ⟨fuel, hf⟩ := h0
    rcases open_ints Try.underlying32 Try.underlying43 (by kernel_rfl) hf with ⟨hcs, _⟩ | ⟨x, l, c, zs, hcs, _, hl, hm, hz, _, hcell, hwz⟩
    · simp [Value.cells] at hcs
      obtain ⟨rfl, rfl, rfl⟩ := hcs
      exact ⟨[], .inl ⟨rfl, rfl, rfl, rfl⟩⟩
    · simp [Value.cells] at hcs
      obtain ⟨rfl, rfl, rfl⟩ := hcs
      exact ⟨zs, .inr ⟨_, rfl, hl, hm, by simpa using hz, hcell, hwz⟩⟩
  obtain ⟨a1, len1, cap1, rfl⟩ := okWide_slice Try.underlying22 (hval 1 22 v1 rfl rfl)
  have k1 := h1
  have lt1 : ∀ x ∈ p1, x.block < W.heap.size := by obtain ⟨m, hm⟩ := k1; exact DataW.trod_lt m _ _ _ hm
  obtain ⟨z1, w1⟩ : ∃ zs, IsRow .u8 W a1 len1 cap1 zs := by
    obtain ⟨fuel, hf⟩ := h1
    rcases open_ints Try.underlying22 Try.underlying5 (by kernel_rfl) hf with ⟨hcs, _⟩ | ⟨x, l, c, zs, hcs, _, hl, hm, hz, _, hcell, hwz⟩
    · simp [Value.cells] at hcs
      obtain ⟨rfl, rfl, rfl⟩ := hcs
      exact ⟨[], .inl ⟨rfl, rfl, rfl, rfl⟩⟩
    · simp [Value.cells] at hcs
      obtain ⟨rfl, rfl, rfl⟩ := hcs
      exact ⟨zs, .inr ⟨_, rfl, hl, hm, by simpa using hz, hcell, hwz⟩⟩
  obtain ⟨a2, len2, cap2, rfl⟩ := okWide_slice Try.underlying34 (hval 2 34 v2 rfl rfl)
  have k2 := h2
  have lt2 : ∀ x ∈ p2, x.block < W.heap.size := by obtain ⟨m, hm⟩ := k2; exact DataW.trod_lt m _ _ _ hm
  obtain ⟨z2, w2⟩ : ∃ zs, IsRow .i64 W a2 len2 cap2 zs := by
    obtain ⟨fuel, hf⟩ := h2
    rcases open_ints Try.underlying34 Try.underlying3 (by kernel_rfl) hf with ⟨hcs, _⟩ | ⟨x, l, c, zs, hcs, _, hl, hm, hz, _, hcell, hwz⟩
    · simp [Value.cells] at hcs
      obtain ⟨rfl, rfl, rfl⟩ := hcs
      exact ⟨[], .inl ⟨rfl, rfl, rfl, rfl⟩⟩
    · simp [Value.cells] at hcs
      obtain ⟨rfl, rfl, rfl⟩ := hcs
      exact ⟨zs, .inr ⟨_, rfl, hl, hm, by simpa using hz, hcell, hwz⟩⟩
  obtain ⟨a3, rfl, rfl, rfl, w3⟩ := open_int Try.underlying3 (hval 3 3 v3 rfl rfl) h3
  obtain ⟨a4, rfl, rfl, rfl, w4⟩ := open_int Try.underlying5 (hval 4 5 v4 rfl rfl) h4
  obtain ⟨a5, rfl, rfl, rfl, w5⟩ := open_int Try.underlying43 (hval 5 43 v5 rfl rfl) h5
  clear hA0 hval0
  refine (walk a0 len0 cap0 z0 a1 len1 cap1 z1 a2 len2 cap2 z2 a3 a4 a5 W w0 w1 w2 w3 w4 w5).mono fun e W' ⟨he, bel⟩ => ?_
  subst he
  exact ⟨_, rfl, _, _, _, [], _, [], hW', trodAll_mk1 (shut_bool Try.underlying4 _), (trodAll_cons_mk (Below.trod laidOut (by kernel_rfl) (of_decide_eq_true (by kernel_rfl)) k0 bel lt0) (trodAll_cons_mk (Below.trod laidOut (by kernel_rfl) (of_decide_eq_true (by kernel_rfl)) k1 bel lt1) (trodAll_cons_mk (Below.trod laidOut (by kernel_rfl) (of_decide_eq_true (by kernel_rfl)) k2 bel lt2) (trodAll_cons_mk (shut_int Try.underlying3 w3) (trodAll_cons_mk (shut_int Try.underlying5 w4) (trodAll_cons_mk (shut_int Try.underlying43 w5) trodAll_mk0)))))), rfl, bel.frame _, fun h => by cases h⟩

theorem over : Rows.fnCheckLookupAcceptsWrittenTableRow.holds Try.pinned (OpenSpec.ofChange Rows.fnCheckLookupAcceptsWrittenTableSpec) :=
  OpenClaim.holds_of_wide 6 Try.f6 rfl rfl rfl rfl rfl rfl rfl ⟨rfl, rfl, rfl, rfl, rfl⟩ rfl rfl rfl rfl rfl (by kernel_rfl) Try.func6 (by kernel_rfl)
    (of_decide_eq_true (by kernel_rfl)) (by unfold Func.isWrapper; first | (rw [if_pos (by decide +kernel)]; kernel_rfl) | (rw [if_neg (by decide +kernel)]; exact ⟨rfl, rfl⟩))
    (fun os started H enc _ => lifted os started H enc)

/-- ████ THE STATEMENT ████ -/
theorem proved : Rows.FnCheckLookupAcceptsWrittenTableSaid := over
#print axioms proved
end Go.Proofs.Qxb6605873a.fnCheckLookupAcceptsWrittenTable
