/-
  635a: the walk of FnTruncateUndoesRaw (4).
-/
import Derived.Test.Qxb6605635aMap
import Derived.BigRegion
namespace Go.Proofs.Qxb6605635a
open Go.RowKit Go.Maps
set_option linter.unusedSimpArgs false
set_option linter.unusedVariables false

theorem bel_trans {B : Nat} {w a b : World} (h : Hid (Below B w a)) (k : Below a.heap.size a b) (hB : B ≤ a.heap.size) : Hid (Below B w b) := h.out.trans (k.mono hB)
theorem src_trans {k : IntKind} {w w' : World} {ao : Option Addr} {n c : Nat} {zs : List Int} (h : Hid (SrcAt k w ao n c zs)) (hb : Below w.heap.size w w') : Hid (SrcAt k w' ao n c zs) := h.out.below hb
theorem own_fits {w : World} {N : Nat} {e : TypeId} {ao : Option Addr} {n c : Nat} {xs : List Value} (h : w.ownsRow N e 1 (.slice ao n c) n xs) : n ≤ c ∧ (ao = none → n = 0 ∧ c = 0) := by
  rcases h.2 with ⟨h1, rfl⟩ | ⟨g, cap, cur, h1, _, _, hn, _⟩
  · cases h1; exact ⟨Nat.le_refl _, fun _ => ⟨rfl, rfl⟩⟩
  · cases h1; exact ⟨hn, fun h => by cases h⟩
theorem own_ne {w : World} {N g : Nat} {e : TypeId} {ao : Option Addr} {n c : Nat} {xs : List Value} (h : w.ownsRow N e 1 (.slice ao n c) n xs) (hg : w.heap.size ≤ g) : ao.map (·.block) ≠ some g := by
  cases ao with
  | none => simp
  | some a =>
    have := (h.lt a.block rfl).2
    simp; omega
theorem own_kept' {w w' : World} {N g : Nat} {e : TypeId} {ao : Option Addr} {n c : Nat} {xs : List Value} (h : w.ownsRow N e 1 (.slice ao n c) n xs) (hg : w.grownBy w' (some g)) (hne : ao.map (·.block) ≠ some g) : w'.ownsRow N e 1 (.slice ao n c) n xs :=
  h.kept hg (Or.inr (by have := hne; cases ao <;> simp_all [Value.ownBlock]))
theorem own_below' {w w' : World} {N : Nat} {e : TypeId} {ao : Option Addr} {n c : Nat} {xs : List Value} (h : w.ownsRow N e 1 (.slice ao n c) n xs) (hb : Below w.heap.size w w') : w'.ownsRow N e 1 (.slice ao n c) n xs :=
  h.kept (row := none) ⟨hb.os, hb.tape, hb.output, hb.size, fun k hk _ => hb.block k hk⟩ (by cases ao <;> simp [Value.ownBlock])

set_option maxRecDepth 100000 in
set_option maxHeartbeats 2000000 in
theorem m_early (a0 a1 a2 a3 : Option Addr) (n0 c0 n1 c1 n2 c2 n3 c3 : Nat) (w : World) (l0 : n0 ≤ 9223372036854775807) (l1 : n1 ≤ 9223372036854775807) (l2 : n2 ≤ 9223372036854775807) (l3 : n3 ≤ 9223372036854775807)
    (h : ¬ (n0 + n1 + n2 + n3 ≤ 1048576 ∧ n0 ≤ 262144 ∧ n1 ≤ 262144 ∧ n2 ≤ 32768 ∧ n3 ≤ 32768 ∧ n2 = n3)) :
    Calls Try.prog 4 #[.slice a0 n0 c0, .slice a1 n1 c1, .slice a2 n2 c2, .slice a3 n3 c3] w fun e w' => e = .returned (.bool true) ∧ w = w' := by
  go_enter Try.func4, Try.ntmps4
  by_cases h0 : n0 + n1 + n2 + n3 ≤ 1048576
  · by_cases h1 : n0 ≤ 262144
    · by_cases h2 : n1 ≤ 262144
      · by_cases h3 : n2 ≤ 32768
        · by_cases h4 : n3 ≤ 32768
          · have h5 : ¬ (n2 : Int) = (n3 : Int) := by omega
            go_wp2_with (go_at_call 12; refine (bytes12_true _ _ _ _ _ _ _ _ _ _ _ _ _ h0).mono ?_; rintro e w' ⟨rfl, rfl⟩)
            go_ret
            exact ⟨rfl, rfl⟩
          · go_wp2_with (go_at_call 12; refine (bytes12_true _ _ _ _ _ _ _ _ _ _ _ _ _ h0).mono ?_; rintro e w' ⟨rfl, rfl⟩)
            go_ret
            exact ⟨rfl, rfl⟩
        · go_wp2_with (go_at_call 12; refine (bytes12_true _ _ _ _ _ _ _ _ _ _ _ _ _ h0).mono ?_; rintro e w' ⟨rfl, rfl⟩)
          go_ret
          exact ⟨rfl, rfl⟩
      · go_wp2_with (go_at_call 12; refine (bytes12_true _ _ _ _ _ _ _ _ _ _ _ _ _ h0).mono ?_; rintro e w' ⟨rfl, rfl⟩)
        go_ret
        exact ⟨rfl, rfl⟩
    · go_wp2_with (go_at_call 12; refine (bytes12_true _ _ _ _ _ _ _ _ _ _ _ _ _ h0).mono ?_; rintro e w' ⟨rfl, rfl⟩)
      go_ret
      exact ⟨rfl, rfl⟩
  · go_wp2_with (go_at_call 12; refine (bytes12_false _ _ _ _ _ _ _ _ _ _ _ _ _ l0 l1 l2 l3 h0).mono ?_; rintro e w' ⟨rfl, rfl⟩)
    go_ret
    exact ⟨rfl, rfl⟩

theorem app_left (bs xs : List Int) (n m j : Nat) (hj : j < n) (h : n ≤ bs.length) : (bs.take n ++ xs.take m)[j]?.getD 0 = bs[j]?.getD 0 := by
  rw [List.getElem?_append_left (by simp; omega), List.getElem?_take, if_pos hj]
theorem app_right (bs xs : List Int) (n m j : Nat) (hj : j < m) (h : n ≤ bs.length) : (bs.take n ++ xs.take m)[n + j]?.getD 0 = xs[j]?.getD 0 := by
  have e : (bs.take n).length = n := by simp; omega
  rw [List.getElem?_append_right (by omega), e, Nat.add_sub_cancel_left, List.getElem?_take, if_pos hj]
theorem rowOf_left (bs xs : List Int) (n m : Nat) (h : n ≤ bs.length) : rowOf .u8 (bs.take n ++ xs.take m) n = rowOf .u8 bs n := by
  simp only [rowOf]
  rw [List.take_append_of_le_length (by simp; omega), List.take_take, Nat.min_self]

set_option maxRecDepth 100000 in
set_option maxHeartbeats 4000000 in
theorem m_zero (a0 a1 : Option Addr) (a2 a3 : Option Addr) (n0 c0 n1 c1 c2 c3 : Nat) (bs xs ks vs : List Int) (w : World) (h0 : n0 + n1 + 0 + 0 ≤ 1048576) (h1 : n0 ≤ 262144) (h2 : n1 ≤ 262144)
    (s0 : SrcAt .u8 w a0 n0 c0 bs) (s1 : SrcAt .u8 w a1 n1 c1 xs) (s2 : SrcAt .u64 w a2 0 c2 ks) (s3 : SrcAt .i64 w a3 0 c3 vs) :
    Calls Try.prog 4 #[.slice a0 n0 c0, .slice a1 n1 c1, .slice a2 0 c2, .slice a3 0 c3] w fun e w' => e = .returned (.bool true) ∧ Below w.heap.size w w' := by
  have S0 := hid_of s0
  have S1 := hid_of s1
  have S2 := hid_of s2
  have S3 := hid_of s3
  clear s0 s1 s2 s3
  have hnm := fun w m => run_neq_map_nil (P := Try.prog) w 30 37 3 m Try.underlying30
  have h3 : 0 ≤ 32768 := by omega
  go_enter Try.func4, Try.ntmps4
  go_wp2_with (go_at_call 12; refine (bytes12_true _ _ _ _ _ _ _ _ _ _ _ _ _ h0).mono ?_; rintro e w' ⟨rfl, rfl⟩)
  refine wp_loop_rounds 1 ?_
  rw [rounds_succ]
  go_wp2_with fail
  refine (clone6_src a0 n0 c0 bs w S0.out h1).mono ?_
  rintro e w1 ⟨p0, q0, rfl, s, -, hb⟩
  have T0 : Hid (SrcAt .u8 w1 p0 n0 q0 bs) := s
  replace S1 := src_trans S1 hb
  replace S2 := src_trans S2 hb
  replace S3 := src_trans S3 hb
  have HB : Hid (Below w.heap.size w w1) := hb
  clear s hb S0
  go_wp2_with fail
  refine (clone6_src a1 n1 c1 xs w1 S1.out h2).mono ?_
  rintro e w2 ⟨p1, q1, rfl, s, -, hb⟩
  have T1 : Hid (SrcAt .u8 w2 p1 n1 q1 xs) := s
  replace T0 := src_trans T0 hb
  replace S2 := src_trans S2 hb
  replace S3 := src_trans S3 hb
  replace HB := bel_trans HB hb HB.out.size
  clear s hb S1
  go_wp2_with fail
  refine (clone13_src a2 0 c2 ks w2 S2.out h3).mono ?_
  rintro e w3 ⟨p2, q2, rfl, s, -, hb⟩
  have T2 : Hid (SrcAt .u64 w3 p2 0 q2 ks) := s
  replace T0 := src_trans T0 hb
  replace T1 := src_trans T1 hb
  replace S3 := src_trans S3 hb
  replace HB := bel_trans HB hb HB.out.size
  clear s hb S2
  go_wp2_with fail
  refine (clone14_src a3 0 c3 vs w3 S3.out h3).mono ?_
  rintro e w4 ⟨p3, q3, rfl, s, -, hb⟩
  have T3 : Hid (SrcAt .i64 w4 p3 0 q3 vs) := s
  replace T0 := src_trans T0 hb
  replace T1 := src_trans T1 hb
  replace T2 := src_trans T2 hb
  replace HB := bel_trans HB hb HB.out.size
  clear s hb S3
  go_wp2_with fail
  refine (clone6_src p0 n0 q0 bs w4 T0.out h1).mono ?_
  rintro e w5 ⟨p4, q4, rfl, s, -, hb⟩
  have T4 : Hid (SrcAt .u8 w5 p4 n0 q4 bs) := s
  replace T0 := src_trans T0 hb
  replace T1 := src_trans T1 hb
  replace T2 := src_trans T2 hb
  replace T3 := src_trans T3 hb
  replace HB := bel_trans HB hb HB.out.size
  clear s hb
  go_wp2_with fail
  refine (clone6_src p0 n0 q0 bs w5 T0.out h1).mono ?_
  rintro e w7 ⟨p5, q5, rfl, -, o, hb⟩
  have O5 : Hid (w7.ownsRow w5.heap.size 5 1 (.slice p5 n0 q5) n0 (rowOf .u8 bs n0)) := o
  have HN : Hid (Below w5.heap.size w5 w7) := hb
  clear o hb T0
  go_wp2_with fail
  refine (newBuffer_any p5 n0 q5 _ none w7).mono ?_
  rintro e w8 ⟨rfl, bf, hb⟩
  have hNg : w5.heap.size ≤ w7.heap.size := HN.out.size
  have NE : Hid (p5.map (·.block) ≠ some w7.heap.size) := own_ne O5.out (Nat.le_refl _)
  replace O5 := hid_of (own_below' O5.out hb)
  have BF := hid_of bf
  replace HN := bel_trans HN hb HN.out.size
  generalize w7.heap.size = g at *
  clear bf hb
  go_wp2_with fail
  refine (raw_any w5.heap.size g p5 n0 q5 none _ p1 n1 q1 xs w8 BF.out hNg O5.out NE.out (T1.out.below HN.out) h1 h2).mono ?_
  rintro e w9 ⟨rfl, p6, q6, bf, o, ne, hb⟩
  rw [rowOf_append _ _ _ _ _ T4.out.2.1 T1.out.2.1] at o
  replace O5 := hid_of o
  replace BF := hid_of bf
  replace NE := hid_of ne
  replace HN : Hid (Below w5.heap.size w5 w9) := HN.out.trans hb
  clear o bf ne hb
  have hlen : n0 + n1 ≤ (bs.take n0 ++ xs.take n1).length := by have e1 := T4.out.2.1; have e2 := T1.out.2.1; simp; omega
  have HLEN := hid_of hlen
  clear hlen
  go_wp2_with (go_at_call 10; refine (zzbytes_any g p6 (n0 + n1) q6 none w9 BF.out).mono ?_; rintro e w' ⟨rfl, rfl⟩)
  refine (concat_any p6 p4 p1 (n0 + n1) q6 n0 q4 n1 q1 (bs.take n0 ++ xs.take n1) bs xs w9 rfl (own_src O5.out HLEN.out) (T4.out.below HN.out) (T1.out.below HN.out) (fun j hj => app_left bs xs n0 n1 j hj T4.out.2.1) (fun j hj => app_right bs xs n0 n1 j hj T4.out.2.1) h1 h2).mono ?_
  rintro e w10 ⟨rfl, hb⟩
  replace O5 := hid_of (own_below' O5.out hb)
  replace BF := hid_of (BF.out.kept (hb.block g BF.out.lt))
  replace HN := bel_trans HN hb HN.out.size
  clear hb
  go_wp2_with (first | (go_at_call 11; refine (zzshared_any g p6 (n0 + n1) q6 none w10 BF.out).mono ?_; rintro e w' ⟨rfl, rfl⟩) | (go_at_call 15; refine (exactly_nil p2 q2 w10).mono ?_; rintro e w' ⟨rfl, rfl⟩))
  refine (trunc_nil g p6 (n0 + n1) n0 q6 w10 BF.out (by omega) (own_fits O5.out).1 (by omega) (own_fits O5.out).2).mono ?_
  rintro e w11 ⟨rfl, bf, hg⟩
  replace BF := hid_of bf
  have o := own_cut O5.out (Nat.le_add_right n0 n1)
  rw [rowOf_take _ _ _ _ (Nat.le_add_right n0 n1), rowOf_left bs xs n0 n1 T4.out.2.1] at o
  replace O5 := hid_of (own_kept' o hg NE.out)
  replace HN : Hid (Below w5.heap.size w5 w11) := HN.out.grown hg HN.out.size (fun k hk => by cases hk; exact hNg)
  clear o bf hg HLEN
  go_wp2_with (go_at_call 10; refine (zzbytes_any g p6 n0 q6 none w11 BF.out).mono ?_; rintro e w' ⟨rfl, rfl⟩)
  refine (concat_any p6 p4 none n0 q6 n0 q4 0 0 bs bs [] w11 rfl (own_src O5.out T4.out.2.1) (T4.out.below HN.out) ⟨fun _ => ⟨rfl, rfl⟩, Nat.zero_le _, fun _ h => by cases h⟩ (fun _ _ => rfl) (fun j hj => by omega) h1 (by omega)).mono ?_
  rintro e w12 ⟨rfl, hb⟩
  replace O5 := hid_of (own_below' O5.out hb)
  replace BF := hid_of (BF.out.kept (hb.block g BF.out.lt))
  replace HN := bel_trans HN hb HN.out.size
  clear hb
  go_wp2_with (first | (go_at_call 11; refine (zzshared_any g p6 n0 q6 none w12 BF.out).mono ?_; rintro e w' ⟨rfl, rfl⟩) | (go_at_call 15; refine (exactly_nil p2 q2 w12).mono ?_; rintro e w' ⟨rfl, rfl⟩))
  refine (trunc_nil g p6 n0 n0 q6 w12 BF.out (by omega) (own_fits O5.out).1 (by omega) (own_fits O5.out).2).mono ?_
  rintro e w13 ⟨rfl, bf, hg⟩
  replace BF := hid_of bf
  replace O5 := hid_of (own_kept' O5.out hg NE.out)
  replace HN : Hid (Below w5.heap.size w5 w13) := HN.out.grown hg HN.out.size (fun k hk => by cases hk; exact hNg)
  clear bf hg
  go_wp2_with (go_at_call 10; refine (zzbytes_any g p6 n0 q6 none w13 BF.out).mono ?_; rintro e w' ⟨rfl, rfl⟩)
  refine (concat_any p6 p4 none n0 q6 n0 q4 0 0 bs bs [] w13 rfl (own_src O5.out T4.out.2.1) (T4.out.below HN.out) ⟨fun _ => ⟨rfl, rfl⟩, Nat.zero_le _, fun _ h => by cases h⟩ (fun _ _ => rfl) (fun j hj => by omega) h1 (by omega)).mono ?_
  rintro e w14 ⟨rfl, hb⟩
  replace O5 := hid_of (own_below' O5.out hb)
  replace BF := hid_of (BF.out.kept (hb.block g BF.out.lt))
  replace HN := bel_trans HN hb HN.out.size
  clear hb
  go_wp2_with (first | (go_at_call 11; refine (zzshared_any g p6 n0 q6 none w14 BF.out).mono ?_; rintro e w' ⟨rfl, rfl⟩) | (go_at_call 15; refine (exactly_nil p2 q2 w14).mono ?_; rintro e w' ⟨rfl, rfl⟩))
  go_ret
  exact ⟨rfl, HB.out.trans (HN.out.mono HB.out.size)⟩

theorem run_makeMap_hint (z : Int) (w : World) : (Instr.makeMap 30 (some (.int .i64 z))).run Try.prog w = .ok (.map (some w.heap.size)) (w.alloc (.map #[] 0)) := by
  unfold Instr.makeMap
  simp only [Sem.run_bind, run_underlying Try.underlying30, Result.andThen_ok]
  rfl

theorem clone13_srcS (ao : Option Addr) (n c : Nat) (zs : List Int) (w : World) (h : SrcAt .u64 w ao n c zs) (h20 : n ≤ 32768) (h0 : 0 < n) :
    Calls Try.prog 13 #[.slice ao n c] w fun e w' => ∃ d c', e = .returned (.slice (some d) n c') ∧ SrcAt .u64 w' (some d) n c' zs ∧ Below w.heap.size w w' := by
  refine (clone13_src ao n c zs w h h20).mono ?_
  rintro e w' ⟨p, c', rfl, s, -, hb⟩
  cases p with
  | none => have := (s.1 rfl).1; omega
  | some d => exact ⟨d, c', rfl, s, hb⟩
theorem clone14_srcS (ao : Option Addr) (n c : Nat) (zs : List Int) (w : World) (h : SrcAt .i64 w ao n c zs) (h20 : n ≤ 32768) (h0 : 0 < n) :
    Calls Try.prog 14 #[.slice ao n c] w fun e w' => ∃ d c', e = .returned (.slice (some d) n c') ∧ SrcAt .i64 w' (some d) n c' zs ∧ Below w.heap.size w w' := by
  refine (clone14_src ao n c zs w h h20).mono ?_
  rintro e w' ⟨p, c', rfl, s, -, hb⟩
  cases p with
  | none => have := (s.1 rfl).1; omega
  | some d => exact ⟨d, c', rfl, s, hb⟩

set_option maxRecDepth 100000 in
set_option maxHeartbeats 8000000 in
theorem m_some (a0 a1 : Option Addr) (ad2 ad3 : Addr) (n0 c0 n1 c1 n2 c2 c3 : Nat) (bs xs ks vs : List Int) (w : World) (h0 : n0 + n1 + n2 + n2 ≤ 1048576) (h1 : n0 ≤ 262144) (h2 : n1 ≤ 262144) (h3 : n2 ≤ 32768) (hpos : 0 < n2) (wk : ∀ j, j < n2 → (Lit.int .u64 (ks[j]?.getD 0)).wf = true) (wv : ∀ j, j < n2 → (Lit.int .i64 (vs[j]?.getD 0)).wf = true)
    (s0 : SrcAt .u8 w a0 n0 c0 bs) (s1 : SrcAt .u8 w a1 n1 c1 xs) (s2 : SrcAt .u64 w (some ad2) n2 c2 ks) (s3 : SrcAt .i64 w (some ad3) n2 c3 vs) :
    Calls Try.prog 4 #[.slice a0 n0 c0, .slice a1 n1 c1, .slice (some ad2) n2 c2, .slice (some ad3) n2 c3] w fun e w' => e = .returned (.bool true) ∧ Below w.heap.size w w' := by
  have S0 := hid_of s0
  have S1 := hid_of s1
  have S2 := hid_of s2
  have S3 := hid_of s3
  clear s0 s1 s2 s3
  have hnm := fun w m => run_neq_map_nil (P := Try.prog) w 30 37 3 m Try.underlying30
  have WK := hid_of wk
  have WV := hid_of wv
  clear wk wv
  have hmm := run_makeMap_hint
  go_enter Try.func4, Try.ntmps4
  go_wp2_with (go_at_call 12; refine (bytes12_true _ _ _ _ _ _ _ _ _ _ _ _ _ h0).mono ?_; rintro e w' ⟨rfl, rfl⟩)
  go_loop [9] (fun i => ∃ k : Nat, k ≤ n2 ∧ i = .int .i64 k ∧ Hid (∀ j, j < k → 0 ≤ vs[j]?.getD 0 ∧ vs[j]?.getD 0 < (n0 : Int))) (fun i => n2 - (intOf i).toNat)
  case atStart => exact ⟨0, Nat.zero_le _, rfl, fun j hj => by omega⟩
  case round =>
    obtain ⟨k, hk, rfl, HV⟩ := hrel
    by_cases hlt : k < n2
    · have hc := S3.out.2.2 _ rfl k hlt
      have HE := hid_of (show ∀ j, j < k + 1 → j < k ∨ j = k from fun j hj => by omega)
      have HV' : Hid (0 ≤ vs[k]?.getD 0 ∧ vs[k]?.getD 0 < (n0 : Int) → ∀ j, j < k + 1 → 0 ≤ vs[j]?.getD 0 ∧ vs[j]?.getD 0 < (n0 : Int)) := fun h j hj => by
        rcases HE.out j hj with h1 | rfl
        · exact HV.out j h1
        · exact h
      clear HE
      generalize vs[k]?.getD 0 = v at *
      by_cases hneg : v < 0
      · go_wp2_with fail
        go_ret
        exact ⟨rfl, Below.refl _ _⟩
      · by_cases hbig : v < (n0 : Int)
        · have HV2 : Hid _ := HV'.out ⟨by omega, hbig⟩
          clear HV'
          go_wp2_with fail
          go_round
          case rel => exact ⟨k + 1, by omega, by go_num, HV2⟩
          case measure => simp [intOf]; omega
        · go_wp2_with fail
          go_ret
          exact ⟨rfl, Below.refl _ _⟩
    · obtain rfl : k = n2 := by omega
      clear hlt hk
      go_wp2_with fail
      refine (clone6_src a0 n0 c0 bs w S0.out h1).mono ?_
      rintro e w1 ⟨p0, q0, rfl, s, -, hb⟩
      have T0 : Hid (SrcAt .u8 w1 p0 n0 q0 bs) := s
      replace S1 := src_trans S1 hb
      replace S2 := src_trans S2 hb
      replace S3 := src_trans S3 hb
      have HB : Hid (Below w.heap.size w w1) := hb
      clear s hb S0
      go_wp2_with fail
      refine (clone6_src a1 n1 c1 xs w1 S1.out h2).mono ?_
      rintro e w2 ⟨p1, q1, rfl, s, -, hb⟩
      have T1 : Hid (SrcAt .u8 w2 p1 n1 q1 xs) := s
      replace T0 := src_trans T0 hb
      replace S2 := src_trans S2 hb
      replace S3 := src_trans S3 hb
      replace HB := bel_trans HB hb HB.out.size
      clear s hb S1
      go_wp2_with fail
      refine (clone13_srcS (some ad2) k c2 ks w2 S2.out h3 hpos).mono ?_
      rintro e w3 ⟨d2, q2, rfl, s, hb⟩
      have T2 : Hid (SrcAt .u64 w3 (some d2) k q2 ks) := s
      replace T0 := src_trans T0 hb
      replace T1 := src_trans T1 hb
      replace S3 := src_trans S3 hb
      replace HB := bel_trans HB hb HB.out.size
      clear s hb S2
      go_wp2_with fail
      refine (clone14_srcS (some ad3) k c3 vs w3 S3.out h3 hpos).mono ?_
      rintro e w4 ⟨d3, q3, rfl, s, hb⟩
      have T3 : Hid (SrcAt .i64 w4 (some d3) k q3 vs) := s
      replace T0 := src_trans T0 hb
      replace T1 := src_trans T1 hb
      replace T2 := src_trans T2 hb
      replace HB := bel_trans HB hb HB.out.size
      clear s hb S3
      go_wp2_with fail
      refine (clone6_src p0 n0 q0 bs w4 T0.out h1).mono ?_
      rintro e w5 ⟨p4, q4, rfl, s, -, hb⟩
      have T4 : Hid (SrcAt .u8 w5 p4 n0 q4 bs) := s
      replace T0 := src_trans T0 hb
      replace T1 := src_trans T1 hb
      replace T2 := src_trans T2 hb
      replace T3 := src_trans T3 hb
      replace HB := bel_trans HB hb HB.out.size
      clear s hb
      go_wp2_with fail
      go_loopw [13] (fun i wr => ∃ j : Nat, j ≤ k ∧ i = .int .i64 j ∧ Hid (wr.ownsMap Try.prog 37 (plainElem Try.prog 3) w5.heap.size j (Dm ks vs j)) ∧ Hid (wr.ownsMap Try.prog 37 (plainElem Try.prog 3) (w5.heap.size + 1) j (Dm ks vs j)) ∧ Hid (Below w5.heap.size w5 wr)) (fun i _ => k - (intOf i).toNat)
      case atStart => exact ⟨0, Nat.zero_le _, rfl, by show World.ownsMap _ _ _ _ _ _ _; exact (World.ownsMap_made w5 _ _ _).alloc _, by show World.ownsMap _ _ _ _ _ _ _; have := World.ownsMap_made (H := Unit) (w5.alloc (.map #[] 0)) Try.prog 37 (plainElem Try.prog 3); simp at this; exact this, ((Below.refl _ _).alloc (Nat.le_refl _) _).alloc (by simp) _⟩
      case round =>
        obtain ⟨j, hj, rfl, OA, OB, HM⟩ := hrel
        by_cases hjk : j < k
        · have hwx := WK.out j hjk
          have hwy := WV.out j hjk
          have hcx : ∀ u, Below w5.heap.size w5 u → u.cell? (d2.add j) = some (.int .u64 (ks[j]?.getD 0)) := fun u hu => (T2.out.below hu).2.2 _ rfl j hjk
          have hcy : ∀ u, Below w5.heap.size w5 u → u.cell? (d3.add j) = some (.int .i64 (vs[j]?.getD 0)) := fun u hu => (T3.out.below hu).2.2 _ rfl j hjk
          have HD := hid_of (show (Dm ks vs j).put (.int .u64 (ks[j]?.getD 0)) (.lit (.int .i64 (vs[j]?.getD 0))) = Dm ks vs (j + 1) from rfl)
          generalize ks[j]?.getD 0 = x at *
          generalize vs[j]?.getD 0 = y at *
          have hkx := keyOf_int_mk Try.underlying37 hwx
          have hvy := plainElem_int (H := Unit) Try.underlying3 hwy
          obtain ⟨u1, hr1, o1, g1⟩ := (World.ownsMap.drew OA.out).update (t := 30) (e := 3) law37 Try.underlying30 (by unfold maxLen; omega) hkx hvy
          have b1 : Below w5.heap.size w5 u1 := (HM.out.drew).grown g1 HM.out.size (fun i hi => by cases hi; exact Nat.le_refl _)
          have OB1 := (World.ownsMap.drew OB.out).kept g1 (by simp)
          obtain ⟨u2, hr2, o2, g2⟩ := (World.ownsMap.drew OB1).update (t := 30) (e := 3) law37 Try.underlying30 (by unfold maxLen; omega) hkx hvy
          have b2 : Below w5.heap.size w5 u2 := (b1.drew).grown g2 b1.size (fun i hi => by cases hi; omega)
          have OA1 := hid_of (o1.drew.kept g2 (by simp))
          rw [HD.out] at OA1 o2
          have OB2 := hid_of o2
          have x1 := hcx _ HM.out
          have y1 := hcy _ HM.out
          have x2 := hcx _ b1
          have y2 := hcy _ b1
          have B2 := hid_of b2
          clear hcx hcy o1 g1 b1 OB1 o2 g2 b2 hkx hvy hwx hwy HD OA OB HM
          go_wp2_with fail
          go_region
          all_goals
            go_wp2_with fail
            go_region
            all_goals
              go_wp2_with fail
              go_roundw
              case rel => exact ⟨j + 1, by omega, by go_num, OA1, OB2, B2⟩
              case measure => simp [intOf]; omega
        · obtain rfl : j = k := by omega
          clear hjk hj
          have hbA : w5.heap.size < wr.heap.size := OA.out.lt
          have HBR : Hid (Below w.heap.size w wr) := bel_trans HB HM.out HB.out.size
          replace T0 := src_trans T0 HM.out
          replace T1 := src_trans T1 HM.out
          replace T2 := src_trans T2 HM.out
          replace T4 := src_trans T4 HM.out
          have HV5 := hid_of (Dm_vals ks vs (n0 : Int) j (fun i hi => (HV.out i hi).2))
          have HH5 := hid_of (Dm_has ks vs j)
          have hn0 : 0 < n0 := by have := HV.out 0 hpos; omega
          clear HB HM HV
          have HB := HBR
          clear HBR
          generalize w5.heap.size + 1 = mB at *
          generalize w5.heap.size = mA at *
          generalize Dm ks vs j = D at *
          go_wp2_with fail
          refine (clone6_src p0 n0 q0 bs wr T0.out h1).mono ?_
          rintro e w7 ⟨p5, q5, rfl, -, o, hb⟩
          have O5 : Hid (w7.ownsRow wr.heap.size 5 1 (.slice p5 n0 q5) n0 (rowOf .u8 bs n0)) := o
          have HN : Hid (Below wr.heap.size wr w7) := hb
          clear o hb T0
          go_wp2_with fail
          refine (newBuffer_any p5 n0 q5 _ (some mA) w7).mono ?_
          rintro e w8 ⟨rfl, bf, hb⟩
          have hNg : wr.heap.size ≤ w7.heap.size := HN.out.size
          have NE : Hid (p5.map (·.block) ≠ some w7.heap.size) := own_ne O5.out (Nat.le_refl _)
          replace O5 := hid_of (own_below' O5.out hb)
          have BF := hid_of bf
          replace HN := bel_trans HN hb HN.out.size
          generalize w7.heap.size = g at *
          clear bf hb
          go_wp2_with fail
          refine (raw_any wr.heap.size g p5 n0 q5 (some mA) _ p1 n1 q1 xs w8 BF.out hNg O5.out NE.out (T1.out.below HN.out) h1 h2).mono ?_
          rintro e w9 ⟨rfl, p6, q6, bf, o, ne, hb⟩
          rw [rowOf_append _ _ _ _ _ T4.out.2.1 T1.out.2.1] at o
          replace O5 := hid_of o
          replace BF := hid_of bf
          replace NE := hid_of ne
          replace HN : Hid (Below wr.heap.size wr w9) := HN.out.trans hb
          clear o bf ne hb
          have hlen : n0 + n1 ≤ (bs.take n0 ++ xs.take n1).length := by have e1 := T4.out.2.1; have e2 := T1.out.2.1; simp; omega
          have HLEN := hid_of hlen
          clear hlen
          go_wp2_with (go_at_call 10; refine (zzbytes_any g p6 (n0 + n1) q6 (some mA) w9 BF.out).mono ?_; rintro e w' ⟨rfl, rfl⟩)
          refine (concat_any p6 p4 p1 (n0 + n1) q6 n0 q4 n1 q1 (bs.take n0 ++ xs.take n1) bs xs w9 rfl (own_src O5.out HLEN.out) (T4.out.below HN.out) (T1.out.below HN.out) (fun j hj => app_left bs xs n0 n1 j hj T4.out.2.1) (fun j hj => app_right bs xs n0 n1 j hj T4.out.2.1) h1 h2).mono ?_
          rintro e w10 ⟨rfl, hb⟩
          replace O5 := hid_of (own_below' O5.out hb)
          replace BF := hid_of (BF.out.kept (hb.block g BF.out.lt))
          replace HN := bel_trans HN hb HN.out.size
          clear hb
          go_wp2_with (first | (go_at_call 11; refine (zzshared_any g p6 (n0 + n1) q6 (some mA) w10 BF.out).mono ?_; rintro e w' ⟨rfl, rfl⟩) | (go_at_call 15; refine (exactly_own mA mB j j D d2 j q2 ks w10 (own_below OA.out (HN.out.block _ OA.out.lt)) (own_below OB.out (HN.out.block _ OB.out.lt)) (T2.out.below HN.out) h3 WK.out HH5.out).mono ?_; rintro e w' ⟨rfl, rfl⟩))
          refine (trunc_own g p6 (n0 + n1) n0 q6 mA j D w10 BF.out (by omega) (own_fits O5.out).1 (by omega) (own_fits O5.out).2 hn0 (by omega) (own_below OA.out (HN.out.block _ OA.out.lt)) (fun x cc h => HV5.out _ cc h)).mono ?_
          rintro e w11 ⟨rfl, bf, hg⟩
          replace BF := hid_of bf
          have o := own_cut O5.out (Nat.le_add_right n0 n1)
          rw [rowOf_take _ _ _ _ (Nat.le_add_right n0 n1), rowOf_left bs xs n0 n1 T4.out.2.1] at o
          replace O5 := hid_of (own_kept' o hg NE.out)
          replace HN : Hid (Below wr.heap.size wr w11) := HN.out.grown hg HN.out.size (fun k hk => by cases hk; exact hNg)
          clear o bf hg HLEN
          go_wp2_with (go_at_call 10; refine (zzbytes_any g p6 n0 q6 (some mA) w11 BF.out).mono ?_; rintro e w' ⟨rfl, rfl⟩)
          refine (concat_any p6 p4 none n0 q6 n0 q4 0 0 bs bs [] w11 rfl (own_src O5.out T4.out.2.1) (T4.out.below HN.out) ⟨fun _ => ⟨rfl, rfl⟩, Nat.zero_le _, fun _ h => by cases h⟩ (fun _ _ => rfl) (fun j hj => by omega) h1 (by omega)).mono ?_
          rintro e w12 ⟨rfl, hb⟩
          replace O5 := hid_of (own_below' O5.out hb)
          replace BF := hid_of (BF.out.kept (hb.block g BF.out.lt))
          replace HN := bel_trans HN hb HN.out.size
          clear hb
          go_wp2_with (first | (go_at_call 11; refine (zzshared_any g p6 n0 q6 (some mA) w12 BF.out).mono ?_; rintro e w' ⟨rfl, rfl⟩) | (go_at_call 15; refine (exactly_own mA mB j j D d2 j q2 ks w12 (own_below OA.out (HN.out.block _ OA.out.lt)) (own_below OB.out (HN.out.block _ OB.out.lt)) (T2.out.below HN.out) h3 WK.out HH5.out).mono ?_; rintro e w' ⟨rfl, rfl⟩))
          refine (trunc_own g p6 n0 n0 q6 mA j D w12 BF.out (by omega) (own_fits O5.out).1 (by omega) (own_fits O5.out).2 hn0 (by omega) (own_below OA.out (HN.out.block _ OA.out.lt)) (fun x cc h => HV5.out _ cc h)).mono ?_
          rintro e w13 ⟨rfl, bf, hg⟩
          replace BF := hid_of bf
          replace O5 := hid_of (own_kept' O5.out hg NE.out)
          replace HN : Hid (Below wr.heap.size wr w13) := HN.out.grown hg HN.out.size (fun k hk => by cases hk; exact hNg)
          clear bf hg
          go_wp2_with (go_at_call 10; refine (zzbytes_any g p6 n0 q6 (some mA) w13 BF.out).mono ?_; rintro e w' ⟨rfl, rfl⟩)
          refine (concat_any p6 p4 none n0 q6 n0 q4 0 0 bs bs [] w13 rfl (own_src O5.out T4.out.2.1) (T4.out.below HN.out) ⟨fun _ => ⟨rfl, rfl⟩, Nat.zero_le _, fun _ h => by cases h⟩ (fun _ _ => rfl) (fun j hj => by omega) h1 (by omega)).mono ?_
          rintro e w14 ⟨rfl, hb⟩
          replace O5 := hid_of (own_below' O5.out hb)
          replace BF := hid_of (BF.out.kept (hb.block g BF.out.lt))
          replace HN := bel_trans HN hb HN.out.size
          clear hb
          go_wp2_with (first | (go_at_call 11; refine (zzshared_any g p6 n0 q6 (some mA) w14 BF.out).mono ?_; rintro e w' ⟨rfl, rfl⟩) | (go_at_call 15; refine (exactly_own mA mB j j D d2 j q2 ks w14 (own_below OA.out (HN.out.block _ OA.out.lt)) (own_below OB.out (HN.out.block _ OB.out.lt)) (T2.out.below HN.out) h3 WK.out HH5.out).mono ?_; rintro e w' ⟨rfl, rfl⟩))
          go_ret
          exact ⟨rfl, HB.out.trans (HN.out.mono HB.out.size)⟩
end Go.Proofs.Qxb6605635a
