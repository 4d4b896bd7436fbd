/-
  SMALL LAWS: a whole array read out of a row or out of the midst of a block, its guard (if any) saying yes.
-/
import Derived.Test.Qxb6605895aRowLaw
import Derived.Deep.RegionHeld3
namespace Go.Proofs.Qxb6605895a
open Go.RowKit
section
variable {P : Program}
theorem wpList_load_row_w {ops : Array Oper} {rest : List Oper} {o : Oper} {a : Act} {w : World} {Q : Exit → Act → World → Prop} (hw : Region.wanted o (yielded ops a.tmps) = true) (ty : TypeId) (x : Operand) (ho : o.op = .load ty x)
    (g : Nat) (hx : a.eval x = .pointer (some ⟨g, 0, none⟩)) (t : TypeId) (cs : Array Value) (fr : Nat × Nat) (d : TypeDesc) (hg : w.heap[g]? = some (.cells cs t fr))
    (hu : P.underlying ty = some d) (hd : (match d with | .struct _ | .array _ _ => true | _ => false) = true) (hi : (P.info? ty).map (·.size) = some cs.size)
    (h : wpList P ops Q rest (a.put o.dst (.agg cs)) w) : wpList P ops Q (o :: rest) a w :=
  BigFrame.wpList_want hw fun _ hK => wp_load_row ty x ho g hx t cs fr d hg hu hd hi (hK _ _ h)

/-- The same of an array (or struct) in the midst of a block. -/
theorem wpList_load_mid_w {ops : Array Oper} {rest : List Oper} {op : Oper} {a : Act} {w : World} {Q : Exit → Act → World → Prop} (hw : Region.wanted op (yielded ops a.tmps) = true) (ty : TypeId) (x : Operand) (ho : op.op = .load ty x)
    (b o : Nat) (hx : a.eval x = .pointer (some ⟨b, o, none⟩)) (cs : List Value) (d : TypeDesc) (hc : w.rangeAt b o cs)
    (hu : P.underlying ty = some d) (hd : d.isRow = true) (hi : (P.info? ty).map (·.size) = some cs.length)
    (h : wpList P ops Q rest (a.put op.dst (.agg cs.toArray)) w) : wpList P ops Q (op :: rest) a w :=
  BigFrame.wpList_want hw fun _ hK => wp_load_mid ty x ho b o hx cs d hc hu hd hi (hK _ _ h)
end

section
variable {P : Program} {md : Region.Mode} {ops : Array Oper} {Q : Exit → Act → World → Prop} {S : World → Prop}
/-- ONE OPERATION OF A REGION THAT DRAWS ITS ORDER IS TAKEN FIRST, the slot that it writes named: an operation that the walk's simp can run. -/
theorem takeOp (i : Nat) (d : Option Tmp) {oi : Oper} {v : Value} {fuel : Nat} {listed : Array Bool} {a : Act} {w : World} (hi : ops[i]? = some oi) (hd : oi.dst = d)
    (hs : Region.noSelect ops = true) (hf : Region.free md ops listed i = true) (hr : (Region.ready md ops listed).contains i = true)
    (hw : Region.wanted oi (yielded ops a.tmps) = true) (hy : ∀ w, S w → (execOp a.eval oi).run P w = .ok (.value v) w) (hS : S w)
    (h : wpAnyH P md ops (NoPanic Q) S fuel (listed.setIfInBounds i true) (a.put d v) w) : wpAnyH P md ops (NoPanic Q) S (fuel + 1) listed a w := by
  subst hd
  exact wpAnyH_take hi hs hf hr (fun _ _ _ h => (show False from h).elim) (.inl ⟨hw, hy⟩) hS h

/-- A load of an array (or struct) out of a range that S gives. -/
theorem takeLoad (i : Nat) (d : Option Tmp) {oi : Oper} {fuel : Nat} {listed : Array Bool} {a : Act} {w : World} (hi : ops[i]? = some oi) (hd : oi.dst = d)
    (hs : Region.noSelect ops = true) (hf : Region.free md ops listed i = true) (hr : (Region.ready md ops listed).contains i = true)
    (hw : Region.wanted oi (yielded ops a.tmps) = true) (ty : TypeId) (x : Operand) (ho : oi.op = .load ty x)
    (b o : Nat) (hx : a.eval x = .pointer (some ⟨b, o, none⟩)) (cs : List Value) (k : TypeDesc) (hR : ∀ w, S w → w.rangeAt b o cs)
    (hu : P.underlying ty = some k) (hk : k.isRow = true) (hz : (P.info? ty).map (·.size) = some cs.length) (hS : S w)
    (h : wpAnyH P md ops (NoPanic Q) S fuel (listed.setIfInBounds i true) (a.put d (.agg cs.toArray)) w) : wpAnyH P md ops (NoPanic Q) S (fuel + 1) listed a w := by
  subst hd
  exact wpAnyH_take hi hs hf hr (fun _ _ _ h => (show False from h).elim) (yieldsIf_load_mid hw ty x ho b o hx cs k hR hu hk hz) hS h
end
end Go.Proofs.Qxb6605895a
