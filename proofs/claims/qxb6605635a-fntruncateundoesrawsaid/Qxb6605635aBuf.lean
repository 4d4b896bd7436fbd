/-
  635a: the buffer: ZZnewBuffer (7), Raw (8), ZZbytes (10), ZZshared (11); isConcat (9).
-/
import Derived.Test.Qxb6605635aBase
import Derived.Maps.AppendAt
import Derived.Deep.Draws
namespace Go.Proofs.Qxb6605635a
open Go.RowKit
set_option linter.unusedSimpArgs false
set_option linter.unusedVariables false

theorem hid_of {p : Prop} (h : p) : Hid p := h
theorem cell_set_same {w : World} {a : Addr} {u v : Value} (h : w.cell? a = some u) : (w.setCell a v).cell? a = some v :=
  World.cell?_setCell_same' w a v (by rw [h]; rfl)
theorem cell_set_off {w : World} {b o o' : Nat} {v : Value} (h : o ≠ o') : (w.setCell ⟨b, o, none⟩ v).cell? ⟨b, o', none⟩ = w.cell? ⟨b, o', none⟩ :=
  World.cell?_setCell_other _ _ _ _ (fun e => h (by injection e))
theorem grownBy_setCell {w wr : World} {p : Nat} (h : w.grownBy wr (some p)) (o : Nat) (v : Value) : w.grownBy (wr.setCell ⟨p, o, none⟩ v) (some p) :=
  ⟨h.os, h.tape, h.output, by have := h.size; simp [World.setCell]; exact this, fun k hk hne => by
    rw [Below.heap_setCell _ _ _ _ (by simpa using hne)]; exact h.block k hk hne⟩
theorem below_drewN {B : Nat} {a w : World} (h : Below B a w) (n : Nat) : Below B a (w.drewN n) := ⟨h.os, h.tape, h.output, h.size, h.block⟩

theorem row_refl (w : World) (row : Option Nat) : w.grownBy w row := ⟨rfl, rfl, rfl, Nat.le_refl _, fun _ _ _ => rfl⟩

/-- WHAT IS TOLD OF A BUFFER AT BLOCK g: its bytes' slice, and its map. -/
structure Buf (w : World) (g : Nat) (ao : Option Addr) (n c : Nat) (mo : Option Nat) : Prop where
  c0 : w.cell? ⟨g, 0, none⟩ = some (.slice ao n c)
  c2 : w.cell? ⟨g, 2, none⟩ = some (.map mo)
  fz : w.frozen? ⟨g, 0, none⟩ = false

theorem Buf.kept {w w' : World} {g : Nat} {ao : Option Addr} {n c : Nat} {mo : Option Nat} (h : Buf w g ao n c mo) (e : w'.heap[g]? = w.heap[g]?) : Buf w' g ao n c mo :=
  ⟨(World.cell?_of_block (by exact e)).trans h.c0, (World.cell?_of_block (by exact e)).trans h.c2, (World.frozen?_of_block (by exact e)).trans h.fz⟩
theorem Buf.lt {w : World} {g : Nat} {ao : Option Addr} {n c : Nat} {mo : Option Nat} (h : Buf w g ao n c mo) : g < w.heap.size := World.block_lt_of_cell? w _ h.c0

/-- An owned slice's cells. -/
theorem own_src {w : World} {N : Nat} {e : TypeId} {k : IntKind} {ao : Option Addr} {n c : Nat} {zs : List Int} (h : w.ownsRow N e 1 (.slice ao n c) n (rowOf k zs n)) (hl : n ≤ zs.length) : SrcAt k w ao n c zs := by
  rcases h.2 with ⟨h1, rfl⟩ | ⟨g, cap, cur, h1, _, hg, hn, _, hs, ht⟩
  · cases h1; exact ⟨fun _ => ⟨rfl, rfl⟩, hl, fun ad h => by cases h⟩
  · cases h1
    refine ⟨fun h => (by cases h), hl, fun ad h j hj => ?_⟩
    obtain rfl := Option.some.inj h
    rw [Addr.add_lit, cell_of_row _ _ _ _ _ _ hg, Nat.zero_add]
    have : (cur.toList.take n)[j]? = (rowOf k zs n)[j]? := by rw [Nat.mul_one] at ht; rw [ht]
    rw [List.getElem?_take, if_pos hj, Array.getElem?_toList] at this
    rw [this]
    simp [rowOf, hj, List.getElem?_eq_getElem (show j < zs.length by omega)]

theorem rowOf_append (k : IntKind) (bs xs : List Int) (n m : Nat) (hb : n ≤ bs.length) (hx : m ≤ xs.length) : rowOf k bs n ++ rowOf k xs m = rowOf k (bs.take n ++ xs.take m) (n + m) := by
  simp only [rowOf, ← List.map_append]
  rw [List.take_of_length_le (l := bs.take n ++ xs.take m) (by simp; omega)]

theorem own_cut {w : World} {N : Nat} {e : TypeId} {ao : Option Addr} {l c n : Nat} {xs : List Value} (h : w.ownsRow N e 1 (.slice ao l c) l xs) (hn : n ≤ l) : w.ownsRow N e 1 (.slice ao n c) n (xs.take n) := by
  refine ⟨by have := h.1; simp; omega, ?_⟩
  rcases h.2 with ⟨h1, rfl⟩ | ⟨g, cap, cur, h1, a1, hg, a2, a3, a4, a5⟩
  · cases h1; obtain rfl : n = 0 := by omega
    exact .inl ⟨rfl, rfl⟩
  · cases h1
    refine .inr ⟨g, c, cur, rfl, a1, hg, by omega, a3, a4, ?_⟩
    rw [← a5, List.take_take, Nat.mul_one, Nat.mul_one, Nat.min_eq_left hn]

theorem rowOf_take (k : IntKind) (zs : List Int) (l n : Nat) (h : n ≤ l) : (rowOf k zs l).take n = rowOf k zs n := by
  simp only [rowOf, ← List.map_take, List.take_take, Nat.min_eq_left h]

section
variable {w : World}
theorem run_append_none (ao : Option Addr) (n c : Nat) (ty : TypeId) (hc : n ≤ c) (ha : ao = none → True) :
    (Builtin.append_ #[22, 22] ty #[.slice ao n c, .slice none 0 0]).run Try.prog w = .ok (.slice ao n c) w := by
  obtain ⟨i0, hi, hz0, hz1, hz2⟩ := info_parts Try.infoB5
  cases ao <;>
  simp [Builtin.append_, run_underlying Try.underlying22, sizeOf, typeInfo, hi, Builtin.lenOf, Builtin.firstCells, loadCells, loadCellsFrom, hc, storeCells]

theorem wpList_append_buf {ops : Array Oper} {rest : List Oper} {o : Oper} {a : Act} {Q : Exit → Act → World → Prop} (hgd : o.guard = none) (s x : Operand)
    (ho : o.op = .call { callee := .builtin .append, args := #[s, x], argTypes := #[22, 22] })
    (N : Nat) (ao : Option Addr) (n c : Nat) (xs : List Value) (hs : a.eval s = .slice ao n c) (hown : w.ownsRow N 5 1 (.slice ao n c) n xs)
    (bo : Option Addr) (m cx : Nat) (zs : List Int) (hx : a.eval x = .slice bo m cx) (hsrc : SrcAt .u8 w bo m cx zs) (h18 : n ≤ 262144) (h18' : m ≤ 262144) (hbase : N ≤ w.heap.size)
    (h : ∀ ao' c' w', Hid (w'.ownsRow N 5 1 (.slice ao' (n + m) c') (n + m) (xs ++ rowOf .u8 zs m)) → Hid (w.grownBy w' (ao.map (·.block))) → Hid (ao'.map (·.block) = ao.map (·.block) ∨ ao'.map (·.block) = some w.heap.size) →
      wpList Try.prog ops Q rest (a.put o.dst (.slice ao' (n + m) c')) w') :
    wpList Try.prog ops Q (o :: rest) a w := by
  have hcap : n ≤ c := by
    rcases hown.2 with ⟨h1, rfl⟩ | ⟨g, cap, cur, h1, _, _, hn, _⟩
    · exact Nat.zero_le _
    · cases h1; exact hn
  have hob : ∀ (p : Option Addr) (n c : Nat), (Value.slice p n c).ownBlock = p.map (·.block) := fun p n c => by cases p <;> rfl
  cases bo with
  | none =>
    obtain ⟨rfl, rfl⟩ := hsrc.1 rfl
    refine wpList_plain hgd fun K hK => ?_
    unfold Oper.wp execOp
    simp only [ho, resolve, invoke, builtin, Sem.run_bind, Sem.run_pure, Result.andThen_ok, List.map_toArray, List.map_cons, List.map_nil, hs, hx, run_append_none ao n c o.type hcap (fun _ => trivial)]
    refine hK _ _ (h ao c w (by simpa [rowOf, Hid] using hown) ?_ (Or.inl rfl))
    exact ⟨rfl, rfl, rfl, Nat.le_refl _, fun _ _ _ => rfl⟩
  | some ad =>
    obtain ⟨i0, hi, hz0, hz1, hz2⟩ := info_parts Try.infoB5
    refine wpList_append_own_at w hgd s x 22 ho N 5 i0 (.int .u8 0) 1 1 Try.underlying22 hi hz0 hz1 hz2 rfl (by decide) _ n xs hs hown ad m cx (rowOf .u8 zs m) hx (by rw [rowOf_length _ _ _ hsrc.2.1, Nat.mul_one]) (hsrc.cells ad rfl) (ints_oneCell _ _) (by unfold maxLen; omega) (by omega) hbase ?_
    intro v' w' h1 h2 h3 h4
    rcases h1.2 with ⟨e1, e2⟩ | ⟨g, cap, cur, e1, r⟩
    · obtain ⟨rfl, rfl⟩ : n = 0 ∧ m = 0 := by omega
      subst e1
      refine h none 0 w' h1 (by rw [hob] at h2; exact h2) ?_
      rw [hob, hob] at h4; exact h4
    · subst e1
      refine h _ cap w' h1 (by rw [hob] at h2; exact h2) ?_
      rw [hob, hob] at h4; exact h4
end

set_option maxHeartbeats 400000 in
theorem newBuffer_any (ao : Option Addr) (n c : Nat) (f : Bool) (mo : Option Nat) (w : World) :
    Calls Try.prog 7 #[.slice ao n c, .bool f, .map mo] w fun e w' => e = .returned (.pointer (some ⟨w.heap.size, 0, none⟩)) ∧ Buf w' w.heap.size ao n c mo ∧ Below w.heap.size w w' := by
  go_enter Try.func7, Try.ntmps7
  go_wp2
  go_ret
  refine ⟨rfl, ⟨?_, ?_, ?_⟩, (Below.refl _ _).alloc (Nat.le_refl _) _⟩
  · rw [cell_of_row _ _ _ _ _ _ (heap_alloc_new _ _)]; rfl
  · rw [cell_of_row _ _ _ _ _ _ (heap_alloc_new _ _)]; rfl
  · simp only [World.frozen?, heap_alloc_new]; rfl

theorem zzbytes_any (g : Nat) (ao : Option Addr) (n c : Nat) (mo : Option Nat) (w : World) (h : Buf w g ao n c mo) :
    Calls Try.prog 10 #[.pointer (some ⟨g, 0, none⟩)] w fun e w' => e = .returned (.slice ao n c) ∧ w = w' := by
  have h0 := h.c0
  go_enter Try.func10, Try.ntmps10
  go_wp2
  go_ret
  exact ⟨rfl, rfl⟩

theorem zzshared_any (g : Nat) (ao : Option Addr) (n c : Nat) (mo : Option Nat) (w : World) (h : Buf w g ao n c mo) :
    Calls Try.prog 11 #[.pointer (some ⟨g, 0, none⟩)] w fun e w' => e = .returned (.map mo) ∧ w = w' := by
  have h0 := h.c2
  go_enter Try.func11, Try.ntmps11
  go_wp2
  go_ret
  exact ⟨rfl, rfl⟩

set_option maxHeartbeats 400000 in
theorem raw_any (N g : Nat) (ao : Option Addr) (n c : Nat) (mo : Option Nat) (xs : List Value) (bo : Option Addr) (m cx : Nat) (zs : List Int) (w : World) (hB : Buf w g ao n c mo) (hN : N ≤ g)
    (hown : w.ownsRow N 5 1 (.slice ao n c) n xs) (hne : ao.map (·.block) ≠ some g) (hsrc : SrcAt .u8 w bo m cx zs) (h18 : n ≤ 262144) (h18' : m ≤ 262144) :
    Calls Try.prog 8 #[.pointer (some ⟨g, 0, none⟩), .slice bo m cx] w fun e w' => e = .returned (.tuple #[]) ∧ ∃ ao' c', Buf w' g ao' (n + m) c' mo ∧ w'.ownsRow N 5 1 (.slice ao' (n + m) c') (n + m) (xs ++ rowOf .u8 zs m) ∧ ao'.map (·.block) ≠ some g ∧ Below N w w' := by
  have hlt := hB.lt
  have h0 := hB.c0
  have HBf : Hid (Buf w g ao n c mo) := hB
  have HO : Hid (w.ownsRow N 5 1 (.slice ao n c) n xs) := hown
  have HS : Hid (SrcAt .u8 w bo m cx zs) := hsrc
  have HN : Hid (ao.map (·.block) ≠ some g) := hne
  have hbs : N ≤ w.heap.size := by omega
  clear hB hown hsrc hne
  go_enter Try.func8, Try.ntmps8
  go_wp2_with (at_builtin; refine wpList_append_buf rfl (.tmp 8) (.tmp 9) rfl N ao n c xs rfl HO.out bo m cx zs rfl HS.out h18 h18' hbs ?_; intro ao' c' w1 HO1 HG HL; have B1 : Hid (Buf w1 g ao n c mo) := HBf.out.kept (HG.out.block g hlt (fun e => HN.out e.symm)); have k0 := B1.out.c0; have k1 := B1.out.fz)
  go_end0
  have hne' : ao'.map (·.block) ≠ some g := by
    rcases HL.out with e | e
    · rw [e]; exact HN.out
    · rw [e]; intro h; injection h with h; omega
  have hb1 : Below N w w1 := (Below.refl N w).grown HG.out hbs (fun k hk => by
    rcases HO.out.2 with ⟨e1, _⟩ | ⟨g', cap, cur, e1, hb, _⟩
    · cases e1; simp at hk
    · cases e1; simp at hk; omega)
  refine ⟨rfl, ao', c', ⟨cell_set_same k0, ?_, ?_⟩, ?_, (by simpa using hne'), hb1.setCell hN _⟩
  · rw [cell_set_off (by decide)]; exact B1.out.c2
  · rw [World.frozen?_setCell]; exact k1
  · exact HO1.out.kept (grownBy_setCell (row_refl w1 (some g)) 0 _) (Or.inr (by have := hne'; cases ao' <;> simp_all [Value.ownBlock]))

set_option maxHeartbeats 2000000 in
theorem concat_any (ao a1 a2 : Option Addr) (l c n c1 m c2 : Nat) (gs bs xs : List Int) (w : World) (hl : l = n + m) (S0 : SrcAt .u8 w ao l c gs) (S1 : SrcAt .u8 w a1 n c1 bs) (S2 : SrcAt .u8 w a2 m c2 xs)
    (e1 : ∀ j, j < n → gs[j]?.getD 0 = bs[j]?.getD 0) (e2 : ∀ j, j < m → gs[n + j]?.getD 0 = xs[j]?.getD 0) (h18 : n ≤ 262144) (h18' : m ≤ 262144) :
    Calls Try.prog 9 #[.slice ao l c, .slice a1 n c1, .slice a2 m c2] w fun e w' => e = .returned (.bool true) ∧ Below w.heap.size w w' := by
  subst hl
  have S0 := hid_of S0
  have S1 := hid_of S1
  have S2 := hid_of S2
  have E1 := hid_of e1
  have E2 := hid_of e2
  clear e1 e2
  cases ao <;> cases a1 <;> cases a2
  all_goals
    go_enter Try.func9, Try.ntmps9
    go_wp2_with fail
    go_loopw [7] (fun i wr => ∃ k d : Nat, k ≤ n ∧ i = .int .i64 k ∧ wr = w.drewN d) (fun i _ => n - (intOf i).toNat)
    case atStart => exact ⟨0, 0, Nat.zero_le _, rfl, rfl⟩
    case round =>
      obtain ⟨k, d, hk, rfl, rfl⟩ := hrel
      by_cases hlt : k < n
      · first
        | (exfalso; have := (S1.out.1 rfl).1; omega)
        | (exfalso; have := (S0.out.1 rfl).1; omega)
        | (have h0 := S0.out.2.2 _ rfl k (by omega)
           have h1 := S1.out.2.2 _ rfl k hlt
           rw [E1.out k hlt] at h0
           generalize bs[k]?.getD 0 = x at *
           go_wp2_with fail
           go_quiet (fail)
           go_wp2_with fail
           go_roundw
           case rel => exact ⟨k + 1, _, by omega, by go_num, rfl⟩
           case measure => simp [intOf]; omega)
      · obtain rfl : k = n := by omega
        go_wp2_with fail
        go_loopw [8] (fun i wr => ∃ j d : Nat, j ≤ m ∧ i = .int .i64 j ∧ wr = w.drewN d) (fun i _ => m - (intOf i).toNat)
        case atStart => exact ⟨0, _, Nat.zero_le _, rfl, rfl⟩
        case round =>
          obtain ⟨j, d, hj, rfl, rfl⟩ := hrel
          by_cases hjm : j < m
          · first
            | (exfalso; have := (S2.out.1 rfl).1; omega)
            | (exfalso; have := (S0.out.1 rfl).1; omega)
            | (have h0 := S0.out.2.2 _ rfl (k + j) (by omega)
               have h1 := S2.out.2.2 _ rfl j hjm
               rw [E2.out j hjm] at h0
               generalize xs[j]?.getD 0 = x at *
               go_wp2_with fail
               go_quiet (fail)
               go_wp2_with fail
               go_roundw
               case rel => exact ⟨j + 1, _, by omega, by go_num, rfl⟩
               case measure => simp [intOf]; omega)
          · obtain rfl : j = m := by omega
            go_wp2_with fail
            go_ret
            exact ⟨rfl, below_drewN (Below.refl _ _) _⟩
end Go.Proofs.Qxb6605635a
