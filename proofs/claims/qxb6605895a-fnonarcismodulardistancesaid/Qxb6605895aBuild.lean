/-
  A new node's cells; a law for 'build'.
-/
import Derived.Test.Qxb6605895aOn
namespace Go.Proofs.Qxb6605895a
open Go.RowKit

/-- A peer's cells. -/
def peerL (xs : List Int) (a z : ByteArray) : List Value := idL xs ++ [.string a, .string z]
def peerA (xs : List Int) (a z : ByteArray) : Array Value := (peerL xs a z).toArray
theorem peerL_length (xs : List Int) (a z : ByteArray) (h : xs.length = 20) : (peerL xs a z).length = 22 := by simp [peerL, idL, h]
theorem peerA_size (xs : List Int) (a z : ByteArray) (h : xs.length = 20) : (peerA xs a z).size = 22 := by simp [peerA, peerL, idL, h]
theorem Try.size34 : (Try.prog.info? 34).map (·.size) = some 22 := by kernel_rfl

theorem list20 : ∀ (xs : List Int), xs.length = 20 → ∃ a0 a1 a2 a3 a4 a5 a6 a7 a8 a9 a10 a11 a12 a13 a14 a15 a16 a17 a18 a19, xs = [a0, a1, a2, a3, a4, a5, a6, a7, a8, a9, a10, a11, a12, a13, a14, a15, a16, a17, a18, a19]
  | [a0, a1, a2, a3, a4, a5, a6, a7, a8, a9, a10, a11, a12, a13, a14, a15, a16, a17, a18, a19], _ => ⟨a0, a1, a2, a3, a4, a5, a6, a7, a8, a9, a10, a11, a12, a13, a14, a15, a16, a17, a18, a19, rfl⟩

/-- A new node's cells: the peer's, and zero values behind them. -/
theorem build92 : ∃ Z : List Value, ∀ (xs : List Int) (_ : xs.length = 20) (a z : ByteArray) (w : World), (Instr.build 92 #[(0, .agg (peerA xs a z))]).run Try.prog w = .ok (.agg (peerL xs a z ++ Z).toArray) w :=
  ⟨(((Try.prog.info? 92).bind (·.zero)).elim #[] Value.cells).toList.drop 22, fun xs h a z w => by
    obtain ⟨a0, a1, a2, a3, a4, a5, a6, a7, a8, a9, a10, a11, a12, a13, a14, a15, a16, a17, a18, a19, rfl⟩ := list20 xs h
    kernel_rfl⟩

section
variable {P : Program}
/-- A struct built of one part. -/
theorem wpList_build1 {ops : Array Oper} {rest : List Oper} {o : Oper} {a : Act} {w : World} {Q : Exit → Act → World → Prop} (hw : Region.wanted o (yielded ops a.tmps) = true) (t : TypeId) (i : Nat) (x : Operand) (ho : o.op = .build t #[(i, x)])
    (u v : Value) (hx : a.eval x = u) (hrun : (Instr.build t #[(i, u)]).run P w = .ok v w)
    (h : wpList P ops Q rest (a.put o.dst v) w) : wpList P ops Q (o :: rest) a w :=
  BigFrame.wpList_want hw fun K hK => by
    unfold Oper.wp execOp
    simp only [ho, List.map_toArray, List.map_cons, List.map_nil, hx, Sem.run_bind, hrun, Result.andThen_ok, Sem.run_pure]
    exact hK _ _ h

/-- A struct built of three parts. -/
theorem wpList_build3 {ops : Array Oper} {rest : List Oper} {o : Oper} {a : Act} {w : World} {Q : Exit → Act → World → Prop} (hw : Region.wanted o (yielded ops a.tmps) = true) (t : TypeId) (i j k : Nat) (x y z : Operand) (ho : o.op = .build t #[(i, x), (j, y), (k, z)])
    (u1 u2 u3 v : Value) (hx : a.eval x = u1) (hy : a.eval y = u2) (hz : a.eval z = u3) (hrun : (Instr.build t #[(i, u1), (j, u2), (k, u3)]).run P w = .ok v w)
    (h : wpList P ops Q rest (a.put o.dst v) w) : wpList P ops Q (o :: rest) a w :=
  BigFrame.wpList_want hw fun K hK => by
    unfold Oper.wp execOp
    simp only [ho, List.map_toArray, List.map_cons, List.map_nil, hx, hy, hz, Sem.run_bind, hrun, Result.andThen_ok, Sem.run_pure]
    exact hK _ _ h
end

/-- A peer built of its three parts. -/
theorem build34 (xs : List Int) (h : xs.length = 20) (a z : ByteArray) (w : World) : (Instr.build 34 #[(0, .agg (idA xs)), (1, .string a), (2, .string z)]).run Try.prog w = .ok (.agg (peerA xs a z)) w := by
  obtain ⟨a0, a1, a2, a3, a4, a5, a6, a7, a8, a9, a10, a11, a12, a13, a14, a15, a16, a17, a18, a19, rfl⟩ := list20 xs h
  kernel_rfl

theorem node_of (xs : List Int) (h : xs.length = 20) (a z : ByteArray) : ∃ N : Array Value, (∀ w, (Instr.build 92 #[(0, .agg (peerA xs a z))]).run Try.prog w = .ok (.agg N) w) ∧ ∀ (j : Nat) (v : Value), (idL xs)[j]? = some v → N[j]? = some v := by
  obtain ⟨Z, hZ⟩ := build92
  refine ⟨_, fun w => hZ xs h a z w, fun j v hj => ?_⟩
  have hl := (List.getElem?_eq_some_iff.1 hj).1
  rw [List.getElem?_toArray, peerL, List.append_assoc, List.getElem?_append_left hl]
  exact hj
end Go.Proofs.Qxb6605895a
