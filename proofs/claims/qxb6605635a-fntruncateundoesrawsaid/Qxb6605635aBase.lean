/-
  635a: what is told of slices; the clones (6, 13, 14); the bound (12).
-/
import Derived.Test.Qxb6605635aProg
import Derived.WalkKit
import Derived.WalkSpells
import Derived.WalkLawsBesides
import Derived.Deep.OwnRows
import Derived.Deep.Cut
import Derived.Laws.CopyOwn
import Derived.BigQuiet
namespace Go.Proofs.Qxb6605635a
open Go.RowKit
set_option linter.unusedSimpArgs false
set_option linter.unusedVariables false

theorem Try.infoB5 : (Try.prog.info? 5).map (fun i => (i.zero, i.size, i.bytes)) = some (some (.int .u8 0), 1, 1) := by kernel_rfl
theorem Try.infoB37 : (Try.prog.info? 37).map (fun i => (i.zero, i.size, i.bytes)) = some (some (.int .u64 0), 1, 8) := by kernel_rfl
theorem Try.infoB3 : (Try.prog.info? 3).map (fun i => (i.zero, i.size, i.bytes)) = some (some (.int .i64 0), 1, 8) := by kernel_rfl
theorem Try.size5 : (Try.prog.info? 5).map (·.size) = some 1 := by kernel_rfl
theorem Try.size37 : (Try.prog.info? 37).map (·.size) = some 1 := by kernel_rfl
theorem Try.size3 : (Try.prog.info? 3).map (·.size) = some 1 := by kernel_rfl

/-- WHAT IS TOLD OF A SLICE OF INTEGERS, nil or not: its elements are the first 'len' of zs. -/
def SrcAt (k : IntKind) (w : World) (ao : Option Addr) (len cap : Nat) (zs : List Int) : Prop :=
  (ao = none → len = 0 ∧ cap = 0) ∧ len ≤ zs.length ∧ ∀ ad, ao = some ad → ∀ j, j < len → w.cell? (ad.add j) = some (.int k (zs[j]?.getD 0))

theorem SrcAt.below {k : IntKind} {w w' : World} {ao : Option Addr} {len cap : Nat} {zs : List Int} (h : SrcAt k w ao len cap zs) (hb : Below w.heap.size w w') : SrcAt k w' ao len cap zs :=
  ⟨h.1, h.2.1, fun ad ha j hj => (hb.cell (World.block_lt_of_cell? w _ (h.2.2 ad ha j hj))).trans (h.2.2 ad ha j hj)⟩

/-- The first n numbers, as cells; n zeros. (Definitions, so that the walk leaves them standing.) -/
def rowOf (k : IntKind) (zs : List Int) (n : Nat) : List Value := (zs.take n).map (Value.int k)
def zeros (k : IntKind) (n : Nat) : List Value := List.replicate n (Value.int k 0)

theorem SrcAt.cells {k : IntKind} {w : World} {ao : Option Addr} {len cap : Nat} {zs : List Int} (h : SrcAt k w ao len cap zs) :
    ∀ ad, ao = some ad → ∀ j u, (rowOf k zs len)[j]? = some u → w.cell? (ad.add j) = some u := by
  intro ad ha j u hu
  have hj : j < len := by
    have := (List.getElem?_eq_some_iff.1 hu).1
    simp [rowOf] at this; omega
  rw [h.2.2 ad ha j hj, ← hu]
  simp [rowOf, hj, List.getElem?_eq_getElem (show j < zs.length by have := h.2.1; omega)]

theorem rowOf_length (k : IntKind) (zs : List Int) (n : Nat) (h : n ≤ zs.length) : (rowOf k zs n).length = n := by simp [rowOf]; omega
theorem zeros_length (k : IntKind) (n : Nat) : (zeros k n).length = n := by simp [zeros]
theorem splice_row (k : IntKind) (n : Nat) (cs : List Value) (h : cs.length = n) : splice (zeros k n) 0 cs = cs := by
  simp [splice, h, zeros]

theorem made_row (k : IntKind) (n : Nat) : madeCells #[Value.int k 0] n = (zeros k n).toArray := by
  apply Array.ext
  · simp [size_madeCells, zeros]
  · intro i h1 h2
    simp [madeCells, Nat.mod_one, zeros]

/-- A row's cells, told as a slice's. -/
theorem src_row {k : IntKind} {t : TypeId} {w : World} {g n : Nat} {zs : List Int} (hl : n ≤ zs.length) (hg : w.heap[g]? = some (.cells (rowOf k zs n).toArray t (0, 0))) :
    SrcAt k w (some ⟨g, 0, none⟩) n n zs := by
  refine ⟨fun h => (by cases h), hl, fun ad h j hj => ?_⟩
  obtain rfl := Option.some.inj h
  rw [Addr.add_lit, cell_of_row _ _ _ _ _ _ hg]
  simp [rowOf, hj, List.getElem?_eq_getElem (show j < zs.length by omega)]


set_option maxHeartbeats 400000 in
theorem clone6_nil (w : World) :
    Calls Try.prog 6 #[.slice none 0 0] w fun e w' => e = .returned (.slice none 0 0) ∧ w' = w := by
  have hn := fun w a n c n' c' => Lib.run_eql_slice_nil (P := Try.prog) w 22 5 a n c n' c' Try.underlying22
  go_enter Try.func6, Try.ntmps6
  go_wp2
  go_ret
  exact ⟨rfl, rfl⟩

set_option maxHeartbeats 400000 in
theorem clone6_some (ad : Addr) (n c : Nat) (zs : List Int) (w : World) (h : SrcAt .u8 w (some ad) n c zs) (h20 : n ≤ 262144) :
    Calls Try.prog 6 #[.slice (some ad) n c] w fun e w' => e = .returned (.slice (some ⟨w.heap.size, 0, none⟩) n n) ∧ w'.heap[w.heap.size]? = some (.cells (rowOf .u8 zs n).toArray 5 (0, 0)) ∧ Below w.heap.size w w' := by
  have hn := fun w a n c n' c' => Lib.run_eql_slice_nil (P := Try.prog) w 22 5 a n c n' c' Try.underlying22
  have hmk := run_make_row' (P := Try.prog) 22 5 (.int .u8 0) 1 Try.underlying22 Try.infoB5 rfl .i64 .i64 n (by omega) (by omega)
  rw [made_row] at hmk
  have S0 : Hid (SrcAt .u8 w (some ad) n c zs) := h
  clear h
  have hzl := S0.out.2.1
  go_enter Try.func6, Try.ntmps6
  go_wp2_with (refine wpList_copy_splice rfl (.tmp 9) (.tmp 10) 22 22 rfl 5 Try.underlying22 Try.size5 _ _ _ _ _ _ rfl rfl w.heap.size 0 (zeros .u8 n) 5 (heap_alloc_new _ _) (rowOf .u8 zs n) (by rw [rowOf_length _ _ _ hzl]; exact (Nat.min_self n).symm) (fun _ => ⟨rfl, ad, rfl, ((S0.out.below ((Below.refl _ _).alloc (Nat.le_refl _) _)).cells ad rfl)⟩) (by rw [rowOf_length _ _ _ hzl, zeros_length]; omega) (ints_oneCell _ _) w.heap.size w ((Below.refl _ _).alloc (Nat.le_refl _) _) (Nat.le_refl _) ?_; intro w0 HG hb0)
  go_ret
  exact ⟨rfl, by have := HG.out; rw [splice_row _ _ _ (rowOf_length _ _ _ hzl)] at this; exact this, hb0⟩

theorem clone6_src (ao : Option Addr) (n c : Nat) (zs : List Int) (w : World) (h : SrcAt .u8 w ao n c zs) (h20 : n ≤ 262144) :
    Calls Try.prog 6 #[.slice ao n c] w fun e w' => ∃ ao' c', e = .returned (.slice ao' n c') ∧ SrcAt .u8 w' ao' n c' zs ∧ w'.ownsRow w.heap.size 5 1 (.slice ao' n c') n (rowOf .u8 zs n) ∧ Below w.heap.size w w' := by
  cases ao with
  | none =>
    obtain ⟨rfl, rfl⟩ := h.1 rfl
    refine (clone6_nil w).mono ?_
    rintro e w' ⟨rfl, rfl⟩
    exact ⟨none, 0, rfl, h, by simp [rowOf]; exact World.ownsRow_nil _ _ _ _, Below.refl _ _⟩
  | some ad =>
    refine (clone6_some ad n c zs w h h20).mono ?_
    rintro e w' ⟨rfl, hg, hb⟩
    refine ⟨_, _, rfl, src_row h.2.1 hg, ⟨by rw [rowOf_length _ _ _ h.2.1, Nat.mul_one], .inr ⟨_, _, _, rfl, Nat.le_refl _, hg, Nat.le_refl _, by unfold maxLen; omega, by simp [rowOf_length _ _ _ h.2.1], ?_⟩⟩, hb⟩
    rw [Nat.mul_one]; exact List.take_of_length_le (by simp [rowOf]; omega)

set_option maxHeartbeats 400000 in
theorem clone13_nil (w : World) :
    Calls Try.prog 13 #[.slice none 0 0] w fun e w' => e = .returned (.slice none 0 0) ∧ w' = w := by
  have hn := fun w a n c n' c' => Lib.run_eql_slice_nil (P := Try.prog) w 32 37 a n c n' c' Try.underlying32
  go_enter Try.func13, Try.ntmps13
  go_wp2
  go_ret
  exact ⟨rfl, rfl⟩

set_option maxHeartbeats 400000 in
theorem clone13_some (ad : Addr) (n c : Nat) (zs : List Int) (w : World) (h : SrcAt .u64 w (some ad) n c zs) (h20 : n ≤ 32768) :
    Calls Try.prog 13 #[.slice (some ad) n c] w fun e w' => e = .returned (.slice (some ⟨w.heap.size, 0, none⟩) n n) ∧ w'.heap[w.heap.size]? = some (.cells (rowOf .u64 zs n).toArray 37 (0, 0)) ∧ Below w.heap.size w w' := by
  have hn := fun w a n c n' c' => Lib.run_eql_slice_nil (P := Try.prog) w 32 37 a n c n' c' Try.underlying32
  have hmk := run_make_row' (P := Try.prog) 32 37 (.int .u64 0) 8 Try.underlying32 Try.infoB37 rfl .i64 .i64 n (by omega) (by omega)
  rw [made_row] at hmk
  have S0 : Hid (SrcAt .u64 w (some ad) n c zs) := h
  clear h
  have hzl := S0.out.2.1
  go_enter Try.func13, Try.ntmps13
  go_wp2_with (refine wpList_copy_splice rfl (.tmp 9) (.tmp 10) 32 32 rfl 37 Try.underlying32 Try.size37 _ _ _ _ _ _ rfl rfl w.heap.size 0 (zeros .u64 n) 37 (heap_alloc_new _ _) (rowOf .u64 zs n) (by rw [rowOf_length _ _ _ hzl]; exact (Nat.min_self n).symm) (fun _ => ⟨rfl, ad, rfl, ((S0.out.below ((Below.refl _ _).alloc (Nat.le_refl _) _)).cells ad rfl)⟩) (by rw [rowOf_length _ _ _ hzl, zeros_length]; omega) (ints_oneCell _ _) w.heap.size w ((Below.refl _ _).alloc (Nat.le_refl _) _) (Nat.le_refl _) ?_; intro w0 HG hb0)
  go_ret
  exact ⟨rfl, by have := HG.out; rw [splice_row _ _ _ (rowOf_length _ _ _ hzl)] at this; exact this, hb0⟩

theorem clone13_src (ao : Option Addr) (n c : Nat) (zs : List Int) (w : World) (h : SrcAt .u64 w ao n c zs) (h20 : n ≤ 32768) :
    Calls Try.prog 13 #[.slice ao n c] w fun e w' => ∃ ao' c', e = .returned (.slice ao' n c') ∧ SrcAt .u64 w' ao' n c' zs ∧ w'.ownsRow w.heap.size 37 1 (.slice ao' n c') n (rowOf .u64 zs n) ∧ Below w.heap.size w w' := by
  cases ao with
  | none =>
    obtain ⟨rfl, rfl⟩ := h.1 rfl
    refine (clone13_nil w).mono ?_
    rintro e w' ⟨rfl, rfl⟩
    exact ⟨none, 0, rfl, h, by simp [rowOf]; exact World.ownsRow_nil _ _ _ _, Below.refl _ _⟩
  | some ad =>
    refine (clone13_some ad n c zs w h h20).mono ?_
    rintro e w' ⟨rfl, hg, hb⟩
    refine ⟨_, _, rfl, src_row h.2.1 hg, ⟨by rw [rowOf_length _ _ _ h.2.1, Nat.mul_one], .inr ⟨_, _, _, rfl, Nat.le_refl _, hg, Nat.le_refl _, by unfold maxLen; omega, by simp [rowOf_length _ _ _ h.2.1], ?_⟩⟩, hb⟩
    rw [Nat.mul_one]; exact List.take_of_length_le (by simp [rowOf]; omega)

set_option maxHeartbeats 400000 in
theorem clone14_nil (w : World) :
    Calls Try.prog 14 #[.slice none 0 0] w fun e w' => e = .returned (.slice none 0 0) ∧ w' = w := by
  have hn := fun w a n c n' c' => Lib.run_eql_slice_nil (P := Try.prog) w 33 3 a n c n' c' Try.underlying33
  go_enter Try.func14, Try.ntmps14
  go_wp2
  go_ret
  exact ⟨rfl, rfl⟩

set_option maxHeartbeats 400000 in
theorem clone14_some (ad : Addr) (n c : Nat) (zs : List Int) (w : World) (h : SrcAt .i64 w (some ad) n c zs) (h20 : n ≤ 32768) :
    Calls Try.prog 14 #[.slice (some ad) n c] w fun e w' => e = .returned (.slice (some ⟨w.heap.size, 0, none⟩) n n) ∧ w'.heap[w.heap.size]? = some (.cells (rowOf .i64 zs n).toArray 3 (0, 0)) ∧ Below w.heap.size w w' := by
  have hn := fun w a n c n' c' => Lib.run_eql_slice_nil (P := Try.prog) w 33 3 a n c n' c' Try.underlying33
  have hmk := run_make_row' (P := Try.prog) 33 3 (.int .i64 0) 8 Try.underlying33 Try.infoB3 rfl .i64 .i64 n (by omega) (by omega)
  rw [made_row] at hmk
  have S0 : Hid (SrcAt .i64 w (some ad) n c zs) := h
  clear h
  have hzl := S0.out.2.1
  go_enter Try.func14, Try.ntmps14
  go_wp2_with (refine wpList_copy_splice rfl (.tmp 9) (.tmp 10) 33 33 rfl 3 Try.underlying33 Try.size3 _ _ _ _ _ _ rfl rfl w.heap.size 0 (zeros .i64 n) 3 (heap_alloc_new _ _) (rowOf .i64 zs n) (by rw [rowOf_length _ _ _ hzl]; exact (Nat.min_self n).symm) (fun _ => ⟨rfl, ad, rfl, ((S0.out.below ((Below.refl _ _).alloc (Nat.le_refl _) _)).cells ad rfl)⟩) (by rw [rowOf_length _ _ _ hzl, zeros_length]; omega) (ints_oneCell _ _) w.heap.size w ((Below.refl _ _).alloc (Nat.le_refl _) _) (Nat.le_refl _) ?_; intro w0 HG hb0)
  go_ret
  exact ⟨rfl, by have := HG.out; rw [splice_row _ _ _ (rowOf_length _ _ _ hzl)] at this; exact this, hb0⟩

theorem clone14_src (ao : Option Addr) (n c : Nat) (zs : List Int) (w : World) (h : SrcAt .i64 w ao n c zs) (h20 : n ≤ 32768) :
    Calls Try.prog 14 #[.slice ao n c] w fun e w' => ∃ ao' c', e = .returned (.slice ao' n c') ∧ SrcAt .i64 w' ao' n c' zs ∧ w'.ownsRow w.heap.size 3 1 (.slice ao' n c') n (rowOf .i64 zs n) ∧ Below w.heap.size w w' := by
  cases ao with
  | none =>
    obtain ⟨rfl, rfl⟩ := h.1 rfl
    refine (clone14_nil w).mono ?_
    rintro e w' ⟨rfl, rfl⟩
    exact ⟨none, 0, rfl, h, by simp [rowOf]; exact World.ownsRow_nil _ _ _ _, Below.refl _ _⟩
  | some ad =>
    refine (clone14_some ad n c zs w h h20).mono ?_
    rintro e w' ⟨rfl, hg, hb⟩
    refine ⟨_, _, rfl, src_row h.2.1 hg, ⟨by rw [rowOf_length _ _ _ h.2.1, Nat.mul_one], .inr ⟨_, _, _, rfl, Nat.le_refl _, hg, Nat.le_refl _, by unfold maxLen; omega, by simp [rowOf_length _ _ _ h.2.1], ?_⟩⟩, hb⟩
    rw [Nat.mul_one]; exact List.take_of_length_le (by simp [rowOf]; omega)

set_option maxHeartbeats 1000000 in
theorem bytes12_true (a0 a1 a2 a3 : Option Addr) (n0 c0 n1 c1 n2 c2 n3 c3 : Nat) (w : World) (h : n0 + n1 + n2 + n3 ≤ 1048576) :
    Calls Try.prog 12 #[.slice a0 n0 c0, .slice a1 n1 c1, .slice a2 n2 c2, .slice a3 n3 c3] w fun e w' => e = .returned (.bool true) ∧ w = w' := by
  go_enter Try.func12, Try.ntmps12
  go_wp2
  go_ret
  exact ⟨rfl, rfl⟩

set_option maxHeartbeats 2000000 in
theorem bytes12_false (a0 a1 a2 a3 : Option Addr) (n0 c0 n1 c1 n2 c2 n3 c3 : Nat) (w : World) (l0 : n0 ≤ 9223372036854775807) (l1 : n1 ≤ 9223372036854775807) (l2 : n2 ≤ 9223372036854775807) (l3 : n3 ≤ 9223372036854775807) (h : ¬ n0 + n1 + n2 + n3 ≤ 1048576) :
    Calls Try.prog 12 #[.slice a0 n0 c0, .slice a1 n1 c1, .slice a2 n2 c2, .slice a3 n3 c3] w fun e w' => e = .returned (.bool false) ∧ w = w' := by
  go_enter Try.func12, Try.ntmps12
  by_cases h0 : n0 ≤ 1048576
  · by_cases h1 : n1 ≤ 1048576
    · by_cases h01 : n0 + n1 ≤ 1048576
      · by_cases h2 : n2 ≤ 1048576
        · by_cases h012 : n0 + n1 + n2 ≤ 1048576
          · by_cases h3 : n3 ≤ 1048576
            · go_wp2; go_ret; exact ⟨rfl, rfl⟩
            · go_wp2; go_ret; exact ⟨rfl, rfl⟩
          · go_wp2; go_ret; exact ⟨rfl, rfl⟩
        · go_wp2; go_ret; exact ⟨rfl, rfl⟩
      · go_wp2; go_ret; exact ⟨rfl, rfl⟩
    · go_wp2; go_ret; exact ⟨rfl, rfl⟩
  · go_wp2; go_ret; exact ⟨rfl, rfl⟩
end Go.Proofs.Qxb6605635a
