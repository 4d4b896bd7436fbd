/-
  635a: the map: what it holds after k rounds; sharedIsExactly (15); Truncate (16).
-/
import Derived.Test.Qxb6605635aBuf
import Derived.Maps.RangeWalk
import Derived.Maps.OwnOps
import Derived.Maps.OwnSet
namespace Go.Proofs.Qxb6605635a
open Go.RowKit Go.Maps
set_option linter.unusedSimpArgs false
set_option linter.unusedVariables false

theorem law37 : Keyed Try.prog 37 := int_keyed Try.underlying37
theorem zero3 (w : World) : (zeroValue 3).run Try.prog w = .ok (.int .i64 0) w := by kernel_rfl

/-- The map after k rounds. -/
def Dm (ks vs : List Int) : Nat → DataW Unit
  | 0 => .map []
  | k + 1 => (Dm ks vs k).put (.int .u64 (ks[k]?.getD 0)) (.lit (.int .i64 (vs[k]?.getD 0)))

theorem Dm_isMap (ks vs : List Int) : ∀ k, IsMap (Dm ks vs k)
  | 0 => isMap_empty
  | k + 1 => (Dm_isMap ks vs k).put _ _

theorem Dm_has (ks vs : List Int) : ∀ k j, j < k → has (Dm ks vs k) (.int .u64 (ks[j]?.getD 0)) = true
  | 0, j, h => by omega
  | k + 1, j, h => by
    by_cases e : (Lit.int .u64 (ks[j]?.getD 0)) = .int .u64 (ks[k]?.getD 0)
    · rw [Dm, e]; exact has_put_same (Dm_isMap ks vs k) (k := .int .u64 (ks[k]?.getD 0)) trivial _
    · rw [Dm, has_put_other e]
      exact Dm_has ks vs k j (by
        rcases Nat.lt_or_ge j k with h1 | h1
        · exact h1
        · obtain rfl : j = k := by omega
          exact absurd rfl e)

theorem Dm_vals (ks vs : List Int) (B : Int) : ∀ k, (∀ j, j < k → vs[j]?.getD 0 < B) → ∀ kl c, (∀ zd, (Dm ks vs k).atKey kl zd = .lit (.int .i64 c)) → c < B
  | 0, _, kl, c, h => by
    have := h (.lit (.int .i64 (c + 1)))
    simp [Dm, DataW.atKey] at this
    omega
  | k + 1, hv, kl, c, h => by
    by_cases e : kl = .int .u64 (ks[k]?.getD 0)
    · subst e
      have := h .nil
      rw [Dm, atKey_put_same (Dm_isMap ks vs k) (k := .int .u64 (ks[k]?.getD 0)) trivial] at this
      simp at this
      have := hv k (by omega)
      omega
    · refine Dm_vals ks vs B k (fun j hj => hv j (by omega)) kl c (fun zd => ?_)
      have := h zd
      rwa [Dm, atKey_put_other e] at this

theorem own_below {w w' : World} {k : TypeId} {R : Value → Option (DataW Unit × List MemPlace)} {b n : Nat} {D : DataW Unit} (h : w.ownsMap Try.prog k R b n D) (e : w'.heap[b]? = w.heap[b]?) : w'.ownsMap Try.prog k R b n D := by
  obtain ⟨es, clock, hb, r⟩ := h
  exact ⟨es, clock, e.trans hb, r⟩

set_option maxHeartbeats 400000 in
theorem exactly_nil (ao : Option Addr) (c : Nat) (w : World) :
    Calls Try.prog 15 #[.map none, .slice ao 0 c, .map none] w fun e w' => e = .returned (.bool true) ∧ w = w' := by
  have hl := fun w ty => Maps.len_nil (P := Try.prog) (w := w) (k := 37) (e := 3) Try.underlying30 ty
  go_enter Try.func15, Try.ntmps15
  go_wp2_with fail
  refine wp_loop_rounds 1 ?_
  rw [rounds_succ]
  go_wp2_with fail
  go_ret
  exact ⟨rfl, rfl⟩

set_option maxHeartbeats 1000000 in
theorem exactly_own (b1 b2 n1 n2 : Nat) (D : DataW Unit) (ad : Addr) (n c : Nat) (ks : List Int) (w : World) (h1 : w.ownsMap Try.prog 37 (plainElem Try.prog 3) b1 n1 D) (h2 : w.ownsMap Try.prog 37 (plainElem Try.prog 3) b2 n2 D)
    (S : SrcAt .u64 w (some ad) n c ks) (h15 : n ≤ 32768) (hw : ∀ j, j < n → (Lit.int .u64 (ks[j]?.getD 0)).wf = true) (hh : ∀ j, j < n → has D (.int .u64 (ks[j]?.getD 0)) = true) :
    Calls Try.prog 15 #[.map (some b1), .slice (some ad) n c, .map (some b2)] w fun e w' => e = .returned (.bool true) ∧ w = w' := by
  have O1 := hid_of h1
  have O2 := hid_of h2
  have S := hid_of S
  have HW := hid_of hw
  have HH := hid_of hh
  clear h1 h2 hw hh
  go_enter Try.func15, Try.ntmps15
  go_wp2_with (first | (refine wpList_len_own _ rfl (.tmp 10) 30 rfl 37 3 Try.underlying30 _ b1 n1 D rfl O1.out ?_) | (refine wpList_len_own _ rfl (.tmp 12) 30 rfl 37 3 Try.underlying30 _ b2 n2 D rfl O2.out ?_))
  go_loop [7, 8, 9] (fun i _ _ => ∃ k : Nat, k ≤ n ∧ i = .int .i64 k) (fun i _ _ => n - (intOf i).toNat)
  case atStart => exact ⟨0, Nat.zero_le _, rfl⟩
  case round =>
    obtain ⟨k, hk, rfl⟩ := hrel
    by_cases hlt : k < n
    · have hc := S.out.2.2 _ rfl k hlt
      have hx := HW.out k hlt
      have hh := HH.out k hlt
      generalize ks[k]?.getD 0 = x at *
      have hkey := keyOf_int_mk Try.underlying37 hx
      obtain ⟨v, ps, hr1, hv1⟩ := O1.out.look_ok law37 Try.underlying30 (zero3 _) (plainElem_int Try.underlying3 (by decide)) hkey
      obtain ⟨c1, rfl, hc1, _⟩ := plainElem_int_inv Try.underlying3 hv1
      obtain ⟨c2, hr2, hc2, _⟩ := O2.out.lookup_int law37 Try.underlying30 Try.underlying3 (zero3 _) hkey
      obtain rfl : c1 = c2 := by
        have := congrArg Prod.fst hc1
        simp only at this
        rw [hc2] at this
        simp at this
        exact this.symm
      rw [hh] at hr1
      clear hv1 hc1 hc2 hh hx
      go_wp2_with fail
      go_round
      case rel => exact ⟨k + 1, by omega, by go_num⟩
      case measure => simp [intOf]; omega
    · obtain rfl : k = n := by omega
      go_wp2_with fail
      go_ret
      exact ⟨rfl, rfl⟩

set_option maxHeartbeats 1000000 in
theorem trunc_nil (g : Nat) (ao : Option Addr) (l n c : Nat) (w : World) (hB : Buf w g ao l c none) (hn : n ≤ l) (hl : l ≤ c) (h19 : l ≤ 1048576) (hao : ao = none → l = 0 ∧ c = 0) :
    Calls Try.prog 16 #[.pointer (some ⟨g, 0, none⟩), .int .i64 n] w fun e w' => e = .returned (.tuple #[]) ∧ Buf w' g ao n c none ∧ w.grownBy w' (some g) := by
  have HBf := hid_of hB
  have k0 := hB.c0
  have k1 := hB.fz
  have hlt := hB.lt
  clear hB
  cases ao with
  | none =>
    obtain ⟨rfl, rfl⟩ := hao rfl
    obtain rfl : n = 0 := by omega
    clear hao
    go_enter Try.func16, Try.ntmps16
    go_upto_region 1 with fail
    have B1 : Hid (Buf (w.setCell ⟨g, 0, none⟩ (.slice none 0 0)) g none 0 0 none) := ⟨cell_set_same k0, (by rw [cell_set_off (by decide)]; exact HBf.out.c2), (by rw [World.frozen?_setCell]; exact k1)⟩
    have HG := hid_of (grownBy_setCell (row_refl w (some g)) 0 (.slice none 0 0))
    generalize w.setCell ⟨g, 0, none⟩ (.slice none 0 0) = W at *
    have k2 := B1.out.c2
    have hrg := run_range_nilMap (P := Try.prog) W 30 37 3 Try.underlying30
    have hnx : ∀ ty, (Instr.next (.pointer (some ⟨W.heap.size, 0, none⟩)) false ty).run Try.prog (W.alloc (.mapIter none 0 #[] 0)) = _ := fun ty => run_next_nilMap W ty 0 0 #[]
    go_wp2_with fail
    refine wp_loop_rounds 1 ?_
    rw [rounds_succ]
    go_wp2_with fail
    go_end0
    exact ⟨rfl, B1.out.kept (heap_alloc_old W _ (by have := HG.out.size; omega)), HG.out.trans (World.grownBy_alloc _ _ _)⟩
  | some ad =>
    clear hao
    go_enter Try.func16, Try.ntmps16
    go_upto_region 1 with fail
    have B1 : Hid (Buf (w.setCell ⟨g, 0, none⟩ (.slice (some ad) n c)) g (some ad) n c none) := ⟨cell_set_same k0, (by rw [cell_set_off (by decide)]; exact HBf.out.c2), (by rw [World.frozen?_setCell]; exact k1)⟩
    have HG := hid_of (grownBy_setCell (row_refl w (some g)) 0 (.slice (some ad) n c))
    generalize w.setCell ⟨g, 0, none⟩ (.slice (some ad) n c) = W at *
    have k2 := B1.out.c2
    have hrg := run_range_nilMap (P := Try.prog) W 30 37 3 Try.underlying30
    have hnx : ∀ ty, (Instr.next (.pointer (some ⟨W.heap.size, 0, none⟩)) false ty).run Try.prog (W.alloc (.mapIter none 0 #[] 0)) = _ := fun ty => run_next_nilMap W ty 0 0 #[]
    go_wp2_with fail
    refine wp_loop_rounds 1 ?_
    rw [rounds_succ]
    go_wp2_with fail
    go_end0
    exact ⟨rfl, B1.out.kept (heap_alloc_old W _ (by have := HG.out.size; omega)), HG.out.trans (World.grownBy_alloc _ _ _)⟩

set_option maxHeartbeats 1000000 in
theorem trunc_own (g : Nat) (ao : Option Addr) (l n c : Nat) (b nb : Nat) (D : DataW Unit) (w : World) (hB : Buf w g ao l c (some b)) (hn : n ≤ l) (hl : l ≤ c) (h19 : l ≤ 1048576) (hao : ao = none → l = 0 ∧ c = 0) (hn0 : 0 < n) (hbg : b ≠ g) (ho : w.ownsMap Try.prog 37 (plainElem Try.prog 3) b nb D) (hv : ∀ x cc, (∀ zd, D.atKey (.int .u64 x) zd = .lit (.int .i64 cc)) → cc < (n : Int)) :
    Calls Try.prog 16 #[.pointer (some ⟨g, 0, none⟩), .int .i64 n] w fun e w' => e = .returned (.tuple #[]) ∧ Buf w' g ao n c (some b) ∧ w.grownBy w' (some g) := by
  have HBf := hid_of hB
  have k0 := hB.c0
  have k1 := hB.fz
  have hlt := hB.lt
  clear hB
  have HO := hid_of ho
  have HV := hid_of hv
  clear ho hv
  cases ao with
  | none =>
    exfalso
    have := (hao rfl).1
    omega
  | some ad =>
    clear hao
    go_enter Try.func16, Try.ntmps16
    go_upto_region 1 with fail
    have B1 : Hid (Buf (w.setCell ⟨g, 0, none⟩ (.slice (some ad) n c)) g (some ad) n c (some b)) := ⟨cell_set_same k0, (by rw [cell_set_off (by decide)]; exact HBf.out.c2), (by rw [World.frozen?_setCell]; exact k1)⟩
    have HG := hid_of (grownBy_setCell (row_refl w (some g)) 0 (.slice (some ad) n c))
    generalize w.setCell ⟨g, 0, none⟩ (.slice (some ad) n c) = W at *
    have k2 := B1.out.c2
    have O1 : Hid (W.ownsMap Try.prog 37 (plainElem Try.prog 3) b nb D) := HO.out.kept HG.out (by simpa using hbg)
    go_wp2_with (first | (at_range; refine wpList_range_own _ rfl _ 30 rfl 37 3 law37 Try.underlying30 _ b nb _ rfl O1.out ?_; intro w0 hrg0 hg0 hs0))
    go_frame
    have HR0 := hid_of hrg0
    have HG0 := hid_of hg0
    clear hrg0 hg0
    go_loopw [4, 5] (fun _ _ wr => ∃ (left : Lit → Bool) (cnt : Nat), Hid (wr.ranges Try.prog 37 (plainElem Try.prog 3) b W.heap.size nb D left cnt) ∧ Hid (W.grownBy wr none)) (fun _ _ wr => wr.rangeLeft b W.heap.size)
    case atStart => exact ⟨_, _, HR0, HG0⟩
    case round =>
      obtain ⟨left, cnt, HR, HGW⟩ := hrel
      go_wp2_with (first | (at_next; refine wpList_next_ranges_ii _ rfl _ rfl 37 3 .u64 .i64 law37 Try.underlying37 Try.underlying3 b W.heap.size nb _ _ _ rfl HR.out ?_ ?_))
      · intro _ hl0
        go_wp2_with fail
        go_end0
        exact ⟨rfl, B1.out.kept (HGW.out.block g (by have := HG.out.size; omega) (by simp)), HG.out.trans (HGW.out.but _)⟩
      · intro x cc w1 cnt1 hwx hwc hlx hat hrg1 hlt1 hg1 hs1 hen
        have hcn : cc < (n : Int) := HV.out x cc hat
        have HR1 := hid_of hrg1
        have HGW1 : Hid (W.grownBy w1 none) := HGW.out.andThen hg1 (fun j hj => by cases hj; exact Or.inl (Nat.le_refl _))
        have HLT := hid_of hlt1
        clear hwx hwc hlx hat hrg1 hlt1 hg1 hs1
        go_wp2_with fail
        go_roundw
        case rel => exact ⟨_, cnt1, HR1, HGW1⟩
        case measure => rw [HR1.out.left_eq, HR.out.left_eq]; exact HLT.out
end Go.Proofs.Qxb6605635a
