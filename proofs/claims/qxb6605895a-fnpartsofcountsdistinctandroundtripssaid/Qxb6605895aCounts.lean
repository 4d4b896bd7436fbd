/-
  The walk of FnPartsOfCountsDistinctAndRoundTrips (4).
-/
import Derived.Test.Qxb6605895aMarks
import Derived.Test.Qxb6605895aCnt
import Derived.Test.Qxb6605895aArrEq
import Derived.Deep.RegionHeld3
namespace Go.Proofs.Qxb6605895a
open Go.RowKit

set_option maxHeartbeats 400000 in
theorem bytes9_true (ao : Option Addr) (n c : Nat) (w : World) (h : n ≤ 1048576) :
    Calls Try.prog 9 #[.slice ao n c] w fun e w' => e = .returned (.bool true) ∧ w = w' := by
  go_enter Try.func9, Try.ntmps9
  go_wp2
  go_ret
  exact ⟨rfl, rfl⟩

set_option maxHeartbeats 400000 in
theorem bytes9_false (ao : Option Addr) (n c : Nat) (w : World) (h : ¬ n ≤ 1048576) :
    Calls Try.prog 9 #[.slice ao n c] w fun e w' => e = .returned (.bool false) ∧ w = w' := by
  go_enter Try.func9, Try.ntmps9
  go_wp2
  go_ret
  exact ⟨rfl, rfl⟩

theorem Try.eqMarks (l : List Int) (w : World) : (Op.equalIn 10000 24 (.agg (marks l)) (.agg (marks l))).run Try.prog w = .ok true w := by
  obtain ⟨i, hi, _⟩ := Option.map_eq_some_iff.1 (show (Try.prog.info? 4).map (·.size) = some 1 by kernel_rfl)
  have h := run_equalIn_row (P := Try.prog) w 9999 Try.underlying24 hi (by kernel_rfl) (by kernel_rfl) (marks l) (marks l) (fun j => .bool (mark l j)) (fun j => .bool (mark l j)) (fun _ => true)
    (fun j hj => ⟨marks_get l j hj, marks_get l j hj, by rw [run_equalIn_bool' w 9998 4 _ _ Try.underlying4]; simp⟩)
  rw [h]; simp

set_option maxRecDepth 100000 in
set_option maxHeartbeats 2000000 in
theorem counts_main (ao : Option Addr) (n c : Nat) (zs : List Int) (w : World) (hn : n ≤ 4096) (s0 : SrcAt .i64 w ao n c zs) :
    Calls Try.prog 4 #[.slice ao n c] w fun e w' => e = .returned (.bool true) ∧ Below w.heap.size w w' := by
  have hneq := fun w a n c n' c' => run_neq_slice_nil_any (P := Try.prog) w 22 3 a n c n' c' Try.underlying22
  have hmk := run_make_row' (P := Try.prog) 22 3 (.int .i64 0) 8 Try.underlying22 Try.infoB3 rfl .i64 .i64 n (by omega) (by omega)
  rw [made_row] at hmk
  have S0 : Hid (SrcAt .i64 w ao n c zs) := s0
  clear s0
  have hzl := S0.out.2.1
  cases ao
  case' none =>
    go_enter Try.func4, Try.ntmps4
    go_wp2_with (go_at_call 9; refine (bytes9_true _ _ _ _ (by omega)).mono ?_; rintro e w' ⟨rfl, rfl⟩)
    refine (zzpartsOf_any _ n _ zs w (by omega) S0.out).mono ?_
    rintro e w1 ⟨rfl, hb1⟩
    have S1 := S0.out.below hb1
  case' some ad =>
    go_enter Try.func4, Try.ntmps4
    go_wp2_with (first | (go_at_call 9; refine (bytes9_true _ _ _ _ (by omega)).mono ?_; rintro e w' ⟨rfl, rfl⟩) | (refine wpList_copy_splice rfl (.tmp 23) (.tmp 24) 22 22 rfl 3 Try.underlying22 Try.size3 _ _ _ _ _ _ rfl rfl w.heap.size 0 (zeros n) 3 (heap_alloc_new _ _) (rowOf zs n) (by rw [rowOf_length _ _ hzl]; exact (Nat.min_self n).symm) (fun _ => ⟨rfl, ad, rfl, ((S0.out.below ((Below.refl _ _).alloc (Nat.le_refl _) _)).cells ad rfl)⟩) (by rw [rowOf_length _ _ hzl, zeros_length]; omega) (ints_oneCell _ _) w.heap.size w ((Below.refl _ _).alloc (Nat.le_refl _) _) (Nat.le_refl _) ?_; intro w0 HG hb0))
    have Sx : SrcAt .i64 w0 (some ⟨w.heap.size, 0, none⟩) n n zs := src_row hzl (by have := HG.out; rw [splice_row _ _ (rowOf_length _ _ hzl)] at this; exact this)
    refine (zzpartsOf_any _ n _ zs w0 (by omega) Sx).mono ?_
    rintro e w1 ⟨rfl, hb1'⟩
    have S1 := Sx.below hb1'
    have hb1 : Below w.heap.size w w1 := hb0.trans (hb1'.mono hb0.size)
    clear HG hb0 Sx hb1'
  all_goals
    clear hmk hneq S0
    have SX : Hid (SrcAt .i64 w1 _ n _ zs) := S1
    have HB : Hid (Below w.heap.size w w1) := hb1
    clear S1 hb1
    have hi : (Try.prog.info? 24).map (·.size) = some (marks (zs.take n)).size := by rw [marks_size]; exact Try.size24
    go_wp2_with (refine wpList_store_row' rfl 24 (.tmp 4) (.tmp 28) rfl w1.heap.size 24 (marks []) (marks (zs.take n)) rfl rfl (by rw [heap_alloc_new, marks_nil]) (by rw [marks_size, marks_size]) hi (marks_one _) ?_; intro w2 HG2 Hg2)
    have HB2 : Hid (Below w.heap.size w w2) := (HB.out.alloc HB.out.size _).grown Hg2.out (by have := HB.out.size; simp; omega) (by intro k hk; cases hk; exact HB.out.size)
    have S2 : Hid (SrcAt .i64 w2 _ n _ zs) := SX.out.below (((Below.refl w1.heap.size w1).alloc (Nat.le_refl _) _).grown Hg2.out (by simp) (by intro k hk; cases hk; exact Nat.le_refl _))
    have hsz2 : w1.heap.size < w2.heap.size := by have := Hg2.out.size; simp at this; omega
    clear HB SX Hg2
    go_loop [5, 6, 7, 8, 9] (fun d i _ _ _ => ∃ k m : Nat, k ≤ n ∧ i = .int .i64 k ∧ d = .int .i64 m ∧ m ≤ k ∧ Hid (m = dc zs k)) (fun _ i _ _ _ => n - (intOf i).toNat)
    case atStart => exact ⟨0, 0, by omega, rfl, rfl, by omega, rfl⟩
    case round =>
      obtain ⟨k, m, hk, rfl, rfl, hm, HM⟩ := hrel
      by_cases hkn : k < n
      · first
        | (exfalso; have := (S2.out.1 rfl).1; omega)
        | (have hd := S2.out.2.2 _ rfl k hkn
           rw [Addr.add_lit, Nat.zero_add] at hd
           by_cases hr : zs[k]?.getD 0 < 0 ∨ 64 ≤ zs[k]?.getD 0
           · have HD : Hid (m = dc zs (k + 1)) := by show m = _; rw [dc_out hr]; exact HM.out
             generalize zs[k]?.getD 0 = p at *
             rcases hr with hr | hr
             · go_wp2_with fail
               go_round
               case rel => exact ⟨k + 1, m, by omega, by go_num, rfl, by omega, HD⟩
               case measure => simp [intOf]; omega
             · go_wp2_with fail
               go_round
               case rel => exact ⟨k + 1, m, by omega, by go_num, rfl, by omega, HD⟩
               case measure => simp [intOf]; omega
           · have hp0 : 0 ≤ zs[k]?.getD 0 := by omega
             have hp1 : zs[k]?.getD 0 < 64 := by omega
             clear hr
             have HS : Hid (mark (zs.take k) (zs[k]?.getD 0).toNat = true → m = dc zs (k + 1)) := fun h => by rw [dc_seen h]; exact HM.out
             have HNW : Hid (mark (zs.take k) (zs[k]?.getD 0).toNat = false → m + 1 = dc zs (k + 1)) := fun h => by rw [dc_new hp0 hp1 h, HM.out]
             clear HM
             generalize zs[k]?.getD 0 = p at *
             obtain ⟨q, rfl⟩ := Int.eq_ofNat_of_zero_le hp0
             rw [Int.toNat_natCast] at HS HNW
             go_wp2_with fail
             go_loop [8, 9] (fun b i => ∃ r : Nat, r ≤ k ∧ i = .int .i64 r ∧ b = .bool false ∧ Hid (∀ s, s < r → (zs[s]?.getD 0 == (q : Int)) = false)) (fun _ i => k - (intOf i).toNat)
             case atStart => exact ⟨0, Nat.zero_le _, rfl, rfl, fun s hs => by omega⟩
             case round =>
               obtain ⟨r, hrk, rfl, rfl, HN⟩ := hrel
               by_cases hlt : r < k
               · have hd2 := S2.out.2.2 _ rfl r (by omega)
                 rw [Addr.add_lit, Nat.zero_add] at hd2
                 by_cases hz : (zs[r]?.getD 0 == (q : Int)) = true
                 · have HF : Hid (m = dc zs (k + 1)) := HS.out (mark_yes hlt (by omega) hz)
                   generalize zs[r]?.getD 0 = p2 at *
                   go_wp2_with fail
                   go_round
                   case rel => exact ⟨k + 1, m, by omega, by go_num, rfl, by omega, HF⟩
                   case measure => simp [intOf]; omega
                 · have hz' : (zs[r]?.getD 0 == (q : Int)) = false := by simpa using hz
                   have HN' : Hid (∀ s, s < r + 1 → (zs[s]?.getD 0 == (q : Int)) = false) := fun s hs => by
                     rcases Nat.lt_or_eq_of_le (Nat.le_of_lt_succ hs) with h | h
                     · exact HN.out s h
                     · rw [h]; exact hz'
                   clear hz HN
                   generalize zs[r]?.getD 0 = p2 at *
                   go_wp2_with fail
                   go_round
                   case rel => exact ⟨r + 1, by omega, by go_num, rfl, HN'⟩
                   case measure => simp [intOf]; omega
               · obtain rfl : r = k := by omega
                 have HF : Hid (m + 1 = dc zs (r + 1)) := HNW.out (mark_no HN.out (by omega))
                 go_wp2_with fail
                 go_round
                 case rel => exact ⟨r + 1, m + 1, by omega, by go_num, by go_num, by omega, HF⟩
                 case measure => simp [intOf]; omega)
      · obtain rfl : k = n := by omega
        clear hkn hk
        have HL : Hid ((nm (zs.take k) 64).length = m) := by show _ = m; rw [nm_dc zs k hzl, HM.out]
        clear HM
        obtain ⟨i3, hi3, hz0, hz1, hz2⟩ := info_parts Try.infoB3
        go_wp2_with (at_make; refine wpList_make_own _ rfl _ _ 22 rfl w2.heap.size 3 i3 (.int .i64 0) 1 Try.underlying22 hi3 hz0 hz1 .i64 .i64 64 64 rfl rfl rfl (by rw [hz2]; omega) (by decide) (Nat.le_refl _) ?_; intro w3 hown3 hg3)
        have hb3 : Below w2.heap.size w2 w3 := (Below.refl _ w2).grown hg3 (Nat.le_refl _) (by intro k hk; cases hk)
        clear hg3
        go_loopw [10, 11] (fun v j wr => ∃ q : Nat, q ≤ 64 ∧ j = .int .i64 q ∧ v = .slice (some ⟨w2.heap.size, 0, none⟩) (nm (zs.take k) q).length 64 ∧
            wr.ownsRow w2.heap.size 3 1 (.slice (some ⟨w2.heap.size, 0, none⟩) (nm (zs.take k) q).length 64) (nm (zs.take k) q).length ((nm (zs.take k) q).map (Value.int .i64)) ∧ Below w2.heap.size w2 wr) (fun _ j _ => 64 - (intOf j).toNat)
        case atStart => exact ⟨0, by omega, rfl, rfl, hown3, hb3⟩
        case round =>
          clear hown3 hb3
          obtain ⟨q, hq, rfl, rfl, hown, hb⟩ := hrel
          have hlq := nm_le (zs.take k) q
          have hbz := hb.size
          by_cases hlt : q < 64
          · have hcell : wr.cell? ⟨w1.heap.size, q, none⟩ = some (.bool (mark (zs.take k) q)) := by
              rw [hb.cell (by exact hsz2), cell_of_row _ _ _ _ _ _ HG2.out, marks_get _ _ hlt]
            cases hmk : mark (zs.take k) q
            · have HF : Hid (nm (zs.take k) (q + 1) = nm (zs.take k) q) := nm_no hmk
              rw [hmk] at hcell
              clear hmk
              go_wp2_with fail
              go_roundw
              case rel => exact ⟨q + 1, by omega, by go_num, by rw [HF.out], by rw [HF.out]; exact hown, hb⟩
              case measure => simp [intOf]; omega
            · have HF : Hid (nm (zs.take k) (q + 1) = nm (zs.take k) q ++ [(q : Int)]) := nm_yes hmk
              rw [hmk] at hcell
              clear hmk
              go_wp2_with (at_builtin; refine wpList_append_fits _ rfl (.tmp 68) (.tmp 70) 22 rfl w2.heap.size 3 i3 1 Try.underlying22 hi3 hz1 _ _ _ _ rfl (hown.alloc _) ⟨wr.heap.size, 0, none⟩ 1 1 [.int .i64 q] rfl rfl (cell_one_new _ _ _) (by simp [Value.oneCell']) (by omega) ?_; intro w5 hown5 hg5)
              go_roundw
              case rel =>
                refine ⟨q + 1, by omega, by go_num, ?_, ?_, ((hb.alloc hbz _).grown hg5 (by simp; omega) (by intro k hk; cases hk; exact Nat.le_refl _))⟩
                · rw [HF.out]; simp
                · rw [HF.out]; simpa using hown5
              case measure => simp [intOf]; omega
          · obtain rfl : q = 64 := by omega
            clear hlt hq hlq
            have SN : Hid (SrcAt .i64 wr (some ⟨w2.heap.size, 0, none⟩) (nm (zs.take k) 64).length 64 (nm (zs.take k) 64)) := by
              refine ⟨fun h => (by cases h), Nat.le_refl _, fun ad h j hj => ?_⟩
              obtain rfl := Option.some.inj h
              refine hown.cells (g := w2.heap.size) rfl j _ ?_
              rw [List.getElem?_map, List.getElem?_eq_getElem hj]; rfl
            have HM2 : Hid (marks ((nm (zs.take k) 64).take m) = marks (zs.take k)) := by
              show marks _ = _
              rw [← HL.out, List.take_length, marks_nm]
            have hm64 : m ≤ 64 := by rw [← HL.out]; exact nm_le _ _
            have hrange : wr.rangeAt w1.heap.size 0 (marks (zs.take k)).toList := fun j v hj => by
              rw [Nat.zero_add, hb.cell (by exact hsz2), cell_of_row _ _ _ _ _ _ HG2.out]; simpa using hj
            have HBr : Hid (Below w.heap.size w wr) := HB2.out.trans (hb.mono HB2.out.size)
            have hwlt : w1.heap.size < wr.heap.size := by omega
            rw [HL.out] at SN ⊢
            clear hown HL HG2 S2 hb HB2 hi3 hz0 hz1 hz2
            go_wp2_with fail
            have hu24 := Try.underlying24
            have ho1 : ∀ v ∈ (marks (zs.take k)).toList, v.oneCell' = true := fun v hv => (Array.all_eq_true_iff_forall_mem.1 (marks_one (zs.take k))) v (by simpa using hv)
            have heq := Try.eqMarks (zs.take k)
            have hl64 : (marks (zs.take k)).toList.length = 64 := by rw [Array.length_toList, marks_size]
            generalize marks (zs.take k) = A at *
            obtain ⟨cs, rfl⟩ : ∃ cs : List Value, A = cs.toArray := ⟨A.toList, by simp⟩
            rw [List.size_toArray] at hi
            rw [List.toList_toArray] at ho1 hrange hl64
            go_region_held3 (fun w' => w'.rangeAt w1.heap.size 0 cs) (first | go_keep_ranges | (intro j v hj; rw [hb7.cell (by simpa using hwlt)]; exact hrange j v hj)) ((go_at_call 8; refine (zzpartsOf_any _ m _ (nm (zs.take k) 64) _ (by omega) ?_).mono ?_; exact SN.out; rw [HM2.out]; rintro e w7 ⟨rfl, hb7⟩))
            all_goals
              go_wp2_with fail
              go_ret
              exact ⟨rfl, HBr.out.drew.trans (hb7.mono HBr.out.size)⟩

set_option maxHeartbeats 400000 in
theorem counts_big (ao : Option Addr) (n c : Nat) (w : World) (hn : ¬ n ≤ 4096) :
    Calls Try.prog 4 #[.slice ao n c] w fun e w' => e = .returned (.bool true) ∧ Below w.heap.size w w' := by
  by_cases h : n ≤ 1048576
  · go_enter Try.func4, Try.ntmps4
    go_wp2_with (go_at_call 9; refine (bytes9_true _ _ _ _ h).mono ?_; rintro e w' ⟨rfl, rfl⟩)
    go_ret
    exact ⟨rfl, Below.refl _ _⟩
  · go_enter Try.func4, Try.ntmps4
    go_wp2_with (go_at_call 9; refine (bytes9_false _ _ _ _ h).mono ?_; rintro e w' ⟨rfl, rfl⟩)
    go_ret
    exact ⟨rfl, Below.refl _ _⟩
end Go.Proofs.Qxb6605895a
