/-
  SMALL LAWS: a whole array stored into a row that is known whole; a slice of integers that is read.
-/
import Derived.WalkKit
import Derived.WalkSpells
import Derived.WalkLawsBesides
import Derived.Deep.OwnRows
import Derived.Deep.MidRow
import Derived.Laws.CopyOwn
namespace Go.Proofs.Qxb6605895a
open Go.RowKit
section
variable {P : Program}

theorem run_storeVar_row (w : World) (g : Nat) (ty t : TypeId) (cur cells : Array Value) (hg : w.heap[g]? = some (.cells cur t (0, 0))) (hs : cells.size = cur.size)
    (hi : (P.info? ty).map (·.size) = some cells.size) (h1 : cells.all (·.oneCell') = true) :
    (storeVar ty ⟨g, 0, none⟩ (.agg cells)).run P w = .ok () (w.setRow g cells) := by
  have hst := run_storeCells_at (P := P) g 0 t cells.toList 0 cur w hg (by simp [hs]) (fun v hv => (Array.all_eq_true_iff_forall_mem.1 h1) v (by simpa using hv))
  have e : (cur.toList.take (0 + 0) ++ cells.toList ++ cur.toList.drop (0 + 0 + cells.toList.length)).toArray = cells := by
    have : cur.toList.drop (0 + 0 + cells.toList.length) = [] := List.drop_eq_nil_of_le (by simp [hs])
    rw [this]; simp
  rw [e] at hst
  cases hq : P.info? ty with
  | none => simp [hq] at hi
  | some i =>
    have hs' : cells.size = i.size := by simp [hq] at hi; omega
    simp [storeVar, sizeOf, typeInfo, hq, Value.cells, hs', hst]

/-- A whole array is stored into a row of its size: the row holds its cells. -/
theorem wpList_store_row {ops : Array Oper} {rest : List Oper} {op : Oper} {a : Act} {w : World} {Q : Exit → Act → World → Prop} (hgd : op.guard = none) (ty : TypeId) (x y : Operand) (ho : op.op = .store ty x y)
    (g : Nat) (t : TypeId) (cur cells : Array Value) (hx : a.eval x = .pointer (some ⟨g, 0, none⟩)) (hy : a.eval y = .agg cells)
    (hg : w.heap[g]? = some (.cells cur t (0, 0))) (hs : cells.size = cur.size) (hi : (P.info? ty).map (·.size) = some cells.size) (h1 : cells.all (·.oneCell') = true)
    (h : wpList P ops Q rest (a.put op.dst undef) (w.setRow g cells)) : wpList P ops Q (op :: rest) a w := by
  refine wpList_plain hgd fun K hK => ?_
  unfold Oper.wp execOp
  simp only [ho, hx, hy, Instr.storeAt, Instr.sureAddr, Sem.run_bind, Sem.run_pure, Result.andThen_ok, run_storeVar_row w g ty t cur cells hg hs hi h1]
  exact hK _ _ h

/-- The same, the world behind it a letter. -/
theorem wpList_store_row' {ops : Array Oper} {rest : List Oper} {op : Oper} {a : Act} {w : World} {Q : Exit → Act → World → Prop} (hgd : op.guard = none) (ty : TypeId) (x y : Operand) (ho : op.op = .store ty x y)
    (g : Nat) (t : TypeId) (cur cells : Array Value) (hx : a.eval x = .pointer (some ⟨g, 0, none⟩)) (hy : a.eval y = .agg cells)
    (hg : w.heap[g]? = some (.cells cur t (0, 0))) (hs : cells.size = cur.size) (hi : (P.info? ty).map (·.size) = some cells.size) (h1 : cells.all (·.oneCell') = true)
    (h : ∀ w', Hid (w'.heap[g]? = some (.cells cells t (0, 0))) → Hid (w.grownBy w' (some g)) → wpList P ops Q rest (a.put op.dst undef) w') : wpList P ops Q (op :: rest) a w :=
  wpList_store_row hgd ty x y ho g t cur cells hx hy hg hs hi h1
    (h _ (setRow_heap w g _ _ t _ hg) ⟨rfl, rfl, rfl, by simp, fun k _ hne => setRow_other w g k cells (fun e => hne (by rw [e]))⟩)
end

/-- WHAT IS TOLD OF A SLICE OF INTEGERS, nil or not: its elements are the first 'len' of zs. -/
def SrcAt (k : IntKind) (w : World) (ao : Option Addr) (len cap : Nat) (zs : List Int) : Prop :=
  (ao = none → len = 0 ∧ cap = 0) ∧ len ≤ zs.length ∧ ∀ ad, ao = some ad → ∀ j, j < len → w.cell? (ad.add j) = some (.int k (zs[j]?.getD 0))

theorem SrcAt.below {k : IntKind} {w w' : World} {ao : Option Addr} {len cap : Nat} {zs : List Int} (h : SrcAt k w ao len cap zs) (hb : Below w.heap.size w w') : SrcAt k w' ao len cap zs :=
  ⟨h.1, h.2.1, fun ad ha j hj => (hb.cell (World.block_lt_of_cell? w _ (h.2.2 ad ha j hj))).trans (h.2.2 ad ha j hj)⟩

theorem SrcAt.cells {k : IntKind} {w : World} {ao : Option Addr} {len cap : Nat} {zs : List Int} (h : SrcAt k w ao len cap zs) :
    ∀ ad, ao = some ad → ∀ j u, ((zs.take len).map (Value.int k))[j]? = some u → w.cell? (ad.add j) = some u := by
  intro ad ha j u hu
  have hj : j < len := by
    have := (List.getElem?_eq_some_iff.1 hu).1
    simp at this; omega
  rw [h.2.2 ad ha j hj, ← hu]
  simp [hj, List.getElem?_eq_getElem (show j < zs.length by have := h.2.1; omega)]

/-! ### The marks -/
/-- Is j among the numbers? -/
def mark (l : List Int) (j : Nat) : Bool := l.any (fun z => z == (j : Int))
/-- The 64 marks as cells. -/
def marks (l : List Int) : Array Value := ((List.range 64).map fun j => Value.bool (mark l j)).toArray

theorem marks_nil : marks [] = #[Value.bool false, Value.bool false, Value.bool false, Value.bool false, Value.bool false, Value.bool false, Value.bool false, Value.bool false,
  Value.bool false, Value.bool false, Value.bool false, Value.bool false, Value.bool false, Value.bool false, Value.bool false, Value.bool false,
  Value.bool false, Value.bool false, Value.bool false, Value.bool false, Value.bool false, Value.bool false, Value.bool false, Value.bool false,
  Value.bool false, Value.bool false, Value.bool false, Value.bool false, Value.bool false, Value.bool false, Value.bool false, Value.bool false,
  Value.bool false, Value.bool false, Value.bool false, Value.bool false, Value.bool false, Value.bool false, Value.bool false, Value.bool false,
  Value.bool false, Value.bool false, Value.bool false, Value.bool false, Value.bool false, Value.bool false, Value.bool false, Value.bool false,
  Value.bool false, Value.bool false, Value.bool false, Value.bool false, Value.bool false, Value.bool false, Value.bool false, Value.bool false,
  Value.bool false, Value.bool false, Value.bool false, Value.bool false, Value.bool false, Value.bool false, Value.bool false, Value.bool false] := rfl

theorem marks_size (l : List Int) : (marks l).size = 64 := by simp [marks]
theorem marks_get (l : List Int) (j : Nat) (h : j < 64) : (marks l)[j]? = some (.bool (mark l j)) := by
  simp [marks, h]
theorem marks_one (l : List Int) : (marks l).all (·.oneCell') = true := by
  rw [Array.all_eq_true_iff_forall_mem]
  intro v hv
  simp only [marks, List.mem_toArray, List.mem_map] at hv
  obtain ⟨j, _, rfl⟩ := hv
  rfl

theorem mark_snoc (l : List Int) (p : Int) (j : Nat) : mark (l ++ [p]) j = (mark l j || p == (j : Int)) := by simp [mark]

theorem marks_set (l : List Int) (p : Nat) (hp : p < 64) : (marks l).setIfInBounds p (.bool true) = marks (l ++ [(p : Int)]) := by
  apply Array.ext_getElem?
  intro j
  rw [Array.getElem?_setIfInBounds, marks_size]
  by_cases h : p = j
  · subst h
    rw [if_pos rfl, if_pos hp, marks_get _ _ hp, mark_snoc]
    simp
  · rw [if_neg h]
    by_cases hj : j < 64
    · rw [marks_get _ _ hj, marks_get _ _ hj, mark_snoc]
      have : ((p : Int) == (j : Int)) = false := by simp; omega
      rw [this, Bool.or_false]
    · rw [Array.getElem?_eq_none (by rw [marks_size]; omega), Array.getElem?_eq_none (by rw [marks_size]; omega)]

theorem marks_out (l : List Int) (p : Int) (hp : p < 0 ∨ 64 ≤ p) : marks (l ++ [p]) = marks l := by
  unfold marks
  congr 1
  apply List.map_congr_left
  intro j hj
  rw [mark_snoc]
  have : (p == (j : Int)) = false := by
    have := List.mem_range.1 hj
    simp; omega
  rw [this, Bool.or_false]

theorem take_snoc (zs : List Int) (k : Nat) (h : k < zs.length) : zs.take (k + 1) = zs.take k ++ [zs[k]?.getD 0] := by
  rw [List.take_succ_eq_append_getElem h, List.getElem?_eq_getElem h]; rfl
end Go.Proofs.Qxb6605895a
