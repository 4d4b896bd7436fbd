/-
  The walk of FnPartsOfMarksExactlyTheNamedParts (3).
-/
import Derived.Test.Qxb6605895aPo
namespace Go.Proofs.Qxb6605895a
open Go.RowKit

theorem Try.infoB3 : (Try.prog.info? 3).map (fun i => (i.zero, i.size, i.bytes)) = some (some (.int .i64 0), 1, 8) := by kernel_rfl
theorem Try.size3 : (Try.prog.info? 3).map (·.size) = some 1 := by kernel_rfl

set_option maxHeartbeats 400000 in
theorem bytes7_true (ao : Option Addr) (n c : Nat) (w : World) (h : n ≤ 1048576) :
    Calls Try.prog 7 #[.slice ao n c] w fun e w' => e = .returned (.bool true) ∧ w = w' := by
  go_enter Try.func7, Try.ntmps7
  go_wp2
  go_ret
  exact ⟨rfl, rfl⟩

set_option maxHeartbeats 400000 in
theorem bytes7_false (ao : Option Addr) (n c : Nat) (w : World) (h : ¬ n ≤ 1048576) :
    Calls Try.prog 7 #[.slice ao n c] w fun e w' => e = .returned (.bool false) ∧ w = w' := by
  go_enter Try.func7, Try.ntmps7
  go_wp2
  go_ret
  exact ⟨rfl, rfl⟩

/-- The first n numbers, as cells; n zeros. (Definitions, so that the walk leaves them standing.) -/
def rowOf (zs : List Int) (n : Nat) : List Value := (zs.take n).map (Value.int .i64)
def zeros (n : Nat) : List Value := List.replicate n (Value.int .i64 0)

theorem rowOf_length (zs : List Int) (n : Nat) (h : n ≤ zs.length) : (rowOf zs n).length = n := by simp [rowOf]; omega
theorem zeros_length (n : Nat) : (zeros n).length = n := by simp [zeros]
theorem splice_row (n : Nat) (cs : List Value) (h : cs.length = n) : splice (zeros n) 0 cs = cs := by
  simp [splice, h, zeros]

theorem made_row (n : Nat) : madeCells #[Value.int .i64 0] n = (zeros n).toArray := by
  apply Array.ext
  · simp [size_madeCells, zeros]
  · intro i h1 h2
    simp [madeCells, Nat.mod_one, zeros]

/-- The new row's cells, told as a slice's. -/
theorem src_row {w : World} {g n : Nat} {zs : List Int} (hl : n ≤ zs.length) (hg : w.heap[g]? = some (.cells (rowOf zs n).toArray 3 (0, 0))) :
    SrcAt .i64 w (some ⟨g, 0, none⟩) n n zs := by
  refine ⟨fun h => (by cases h), hl, fun ad h j hj => ?_⟩
  obtain rfl := Option.some.inj h
  rw [Addr.add_lit, cell_of_row _ _ _ _ _ _ hg]
  simp [rowOf, hj, List.getElem?_eq_getElem (show j < zs.length by omega)]

theorem mark_no {zs : List Int} {n j : Nat} (h : ∀ q, q < n → (zs[q]?.getD 0 == (j : Int)) = false) (hl : n ≤ zs.length) : mark (zs.take n) j = false := by
  rw [mark, List.any_eq_false]
  intro z hz
  obtain ⟨q, hq, rfl⟩ := List.mem_iff_getElem.1 hz
  have hq' : q < n := by simp at hq; omega
  have := h q hq'
  rw [List.getElem?_eq_getElem (by omega)] at this
  simpa using this

theorem mark_yes {zs : List Int} {n j q : Nat} (hq : q < n) (hl : n ≤ zs.length) (h : (zs[q]?.getD 0 == (j : Int)) = true) : mark (zs.take n) j = true := by
  rw [mark, List.any_eq_true]
  refine ⟨zs[q]?.getD 0, ?_, h⟩
  rw [List.getElem?_eq_getElem (by omega)]
  exact List.mem_iff_getElem.2 ⟨q, by simp; omega, by simp⟩

set_option maxRecDepth 100000 in
set_option maxHeartbeats 2000000 in
theorem marks_main (ao : Option Addr) (n c : Nat) (zs : List Int) (w : World) (hn : n ≤ 131072) (s0 : SrcAt .i64 w ao n c zs) :
    Calls Try.prog 3 #[.slice ao n c] w fun e w' => e = .returned (.bool true) ∧ Below w.heap.size w w' := by
  have hneq := fun w a n c n' c' => run_neq_slice_nil_any (P := Try.prog) w 22 3 a n c n' c' Try.underlying22
  have hmk := run_make_row' (P := Try.prog) 22 3 (.int .i64 0) 8 Try.underlying22 Try.infoB3 rfl .i64 .i64 n (by omega) (by omega)
  rw [made_row] at hmk
  have S0 : Hid (SrcAt .i64 w ao n c zs) := s0
  clear s0
  have hzl := S0.out.2.1
  cases ao
  case' none =>
    go_enter Try.func3, Try.ntmps3
    go_wp2_with (go_at_call 7; refine (bytes7_true _ _ _ _ (by omega)).mono ?_; rintro e w' ⟨rfl, rfl⟩)
    refine (zzpartsOf_any _ n _ zs w (by omega) S0.out).mono ?_
    rintro e w1 ⟨rfl, hb1⟩
    have S1 := S0.out.below hb1
  case' some ad =>
    go_enter Try.func3, Try.ntmps3
    go_wp2_with (first | (go_at_call 7; refine (bytes7_true _ _ _ _ (by omega)).mono ?_; rintro e w' ⟨rfl, rfl⟩) | (refine wpList_copy_splice rfl (.tmp 19) (.tmp 20) 22 22 rfl 3 Try.underlying22 Try.size3 _ _ _ _ _ _ rfl rfl w.heap.size 0 (zeros n) 3 (heap_alloc_new _ _) (rowOf zs n) (by rw [rowOf_length _ _ hzl]; exact (Nat.min_self n).symm) (fun _ => ⟨rfl, ad, rfl, ((S0.out.below ((Below.refl _ _).alloc (Nat.le_refl _) _)).cells ad rfl)⟩) (by rw [rowOf_length _ _ hzl, zeros_length]; omega) (ints_oneCell _ _) w.heap.size w ((Below.refl _ _).alloc (Nat.le_refl _) _) (Nat.le_refl _) ?_; intro w0 HG hb0))
    have Sx : SrcAt .i64 w0 (some ⟨w.heap.size, 0, none⟩) n n zs := src_row hzl (by have := HG.out; rw [splice_row _ _ (rowOf_length _ _ hzl)] at this; exact this)
    refine (zzpartsOf_any _ n _ zs w0 (by omega) Sx).mono ?_
    rintro e w1 ⟨rfl, hb1'⟩
    have S1 := Sx.below hb1'
    have hb1 : Below w.heap.size w w1 := hb0.trans (hb1'.mono hb0.size)
    clear HG hb0 Sx hb1'
  all_goals
    clear hmk hneq S0
    have SX : Hid (SrcAt .i64 w1 _ n _ zs) := S1
    have HB : Hid (Below w.heap.size w w1) := hb1
    clear S1 hb1
    have hi : (Try.prog.info? 24).map (·.size) = some (marks (zs.take n)).size := by rw [marks_size]; exact Try.size24
    go_wp2_with (refine wpList_store_row' rfl 24 (.tmp 4) (.tmp 24) rfl w1.heap.size 24 (marks []) (marks (zs.take n)) rfl rfl (by rw [heap_alloc_new, marks_nil]) (by rw [marks_size, marks_size]) hi (marks_one _) ?_; intro w2 HG2 Hg2)
    have HB2 : Hid (Below w.heap.size w w2) := (HB.out.alloc HB.out.size _).grown Hg2.out (by have := HB.out.size; simp; omega) (by intro k hk; cases hk; exact HB.out.size)
    have S2 : Hid (SrcAt .i64 w2 _ n _ zs) := SX.out.below (((Below.refl w1.heap.size w1).alloc (Nat.le_refl _) _).grown Hg2.out (by simp) (by intro k hk; cases hk; exact Nat.le_refl _))
    clear HB SX Hg2 hi
    go_loop [5, 6, 7] (fun j _ _ => ∃ k : Nat, k ≤ 64 ∧ j = .int .i64 k) (fun j _ _ => 64 - (intOf j).toNat)
    case atStart => exact ⟨0, by omega, rfl⟩
    case round =>
      obtain ⟨j, hj, rfl⟩ := hrel
      by_cases hlt : j < 64
      · have hcell : w2.cell? ⟨w1.heap.size, j, none⟩ = some (.bool (mark (zs.take n) j)) := by rw [cell_of_row _ _ _ _ _ _ HG2.out, marks_get _ _ hlt]
        go_wp2_with fail
        go_loop [6, 7] (fun b i => ∃ k : Nat, k ≤ n ∧ i = .int .i64 k ∧ b = .bool false ∧ Hid (∀ q, q < k → (zs[q]?.getD 0 == (j : Int)) = false)) (fun _ i => n - (intOf i).toNat)
        case atStart => exact ⟨0, Nat.zero_le _, rfl, rfl, fun q hq => by omega⟩
        case round =>
          obtain ⟨k, hk, rfl, rfl, HN⟩ := hrel
          by_cases hkn : k < n
          · first
            | (exfalso; have := (S2.out.1 rfl).1; omega)
            | (have hd := S2.out.2.2 _ rfl k hkn
               rw [Addr.add_lit, Nat.zero_add] at hd
               by_cases hz : (zs[k]?.getD 0 == (j : Int)) = true
               · have hm : mark (zs.take n) j = true := mark_yes hkn hzl hz
                 rw [hm] at hcell
                 clear hm
                 generalize zs[k]?.getD 0 = p at *
                 go_wp2_with fail
                 go_round
                 case rel => exact ⟨j + 1, by omega, by go_num⟩
                 case measure => simp [intOf]; omega
               · have hz' : (zs[k]?.getD 0 == (j : Int)) = false := by simpa using hz
                 have HN' : Hid (∀ q, q < k + 1 → (zs[q]?.getD 0 == (j : Int)) = false) := fun q hq => by
                   rcases Nat.lt_or_eq_of_le (Nat.le_of_lt_succ hq) with h | h
                   · exact HN.out q h
                   · rw [h]; exact hz'
                 clear hz HN
                 generalize zs[k]?.getD 0 = p at *
                 go_wp2_with fail
                 go_round
                 case rel => exact ⟨k + 1, by omega, by go_num, rfl, HN'⟩
                 case measure => simp [intOf]; omega)
          · obtain rfl : k = n := by omega
            have hm : mark (zs.take k) j = false := mark_no HN.out hzl
            rw [hm] at hcell
            clear hm
            go_wp2_with fail
            go_round
            case rel => exact ⟨j + 1, by omega, by go_num⟩
            case measure => simp [intOf]; omega
      · go_wp2_with fail
        go_ret
        exact ⟨rfl, HB2.out⟩

set_option maxHeartbeats 400000 in
theorem marks_big (ao : Option Addr) (n c : Nat) (w : World) (hn : ¬ n ≤ 131072) :
    Calls Try.prog 3 #[.slice ao n c] w fun e w' => e = .returned (.bool true) ∧ Below w.heap.size w w' := by
  by_cases h : n ≤ 1048576
  · go_enter Try.func3, Try.ntmps3
    go_wp2_with (go_at_call 7; refine (bytes7_true _ _ _ _ h).mono ?_; rintro e w' ⟨rfl, rfl⟩)
    go_ret
    exact ⟨rfl, Below.refl _ _⟩
  · go_enter Try.func3, Try.ntmps3
    go_wp2_with (go_at_call 7; refine (bytes7_false _ _ _ _ h).mono ?_; rintro e w' ⟨rfl, rfl⟩)
    go_ret
    exact ⟨rfl, Below.refl _ _⟩
end Go.Proofs.Qxb6605895a
