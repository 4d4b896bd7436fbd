/-
  ZZcheckLookup (18). (Made by tools/lk6.py.)
-/
import Derived.Test.Qxb6605873aLk5
namespace Go.Proofs.Qxb6605873a
open Go.RowKit Go.Sort
set_option linter.unusedSimpArgs false
set_option linter.unusedVariables false

theorem Try.infoB60 : (Try.prog.info? 60).map (fun i => (i.zero, i.size, i.bytes)) = some (some (.agg #[.int .u32 0, .int .u8 0, .int .u8 0, .int .u32 0, .slice none 0 0, .int .u32 0, .int .i64 0]), 7, 56) := by kernel_rfl

/-- The cells of one entry. -/
def entC (p : Int) (x : Nat) (o : Int) : List Value := [.int .u32 p, .int .u8 x, .int .u8 0, .int .u32 0, .slice none 0 0, .int .u32 0, .int .i64 o]

/-- Block g holds n entries of seven cells each, which may be written. -/
structure EntW (w : World) (g n : Nat) (P : Nat → Int) (X : Nat → Nat) (O : Nat → Int) : Prop where
  rng : ∀ i, i < n → w.rangeAt g (i * 7) (entC (P i) (X i) (O i))
  fz : ∀ j, j < n * 7 → w.frozen? ⟨g, j, none⟩ = false
  lt : g < w.heap.size

theorem EntF.congr {w : World} {g n : Nat} {P O P' O' : Nat → Int} {X X' : Nat → Nat} (h : EntF w g n P X O) (e : ∀ t, t < n → P t = P' t ∧ X t = X' t ∧ O t = O' t) : EntF w g n P' X' O' :=
  ⟨fun i hi => by obtain ⟨a, b, c⟩ := e i hi; rw [← a, ← b, ← c]; exact h.cell i hi, h.lt⟩

theorem EntF.alloc {w : World} {g n : Nat} {pos : Nat → Int} {xor : Nat → Nat} {off : Nat → Int} (h : EntF w g n pos xor off) (o : Obj) : EntF (w.alloc o) g n pos xor off := by
  have e : ∀ j, (w.alloc o).cell? ⟨g, j, none⟩ = w.cell? ⟨g, j, none⟩ := fun j => World.cell?_alloc_lt _ _ _ h.lt
  refine ⟨fun i hi => ?_, by have := h.lt; rw [sizeA]; omega⟩
  simp only [e]; exact h.cell i hi

section
variable {w w' : World} {g n : Nat} {P O : Nat → Int} {X : Nat → Nat}
theorem EntW.toF (h : EntW w g n P X O) : EntF w g n P X O :=
  ⟨fun i hi => ⟨h.rng i hi 0 _ rfl, h.rng i hi 1 _ rfl, h.rng i hi 2 _ rfl, h.rng i hi 3 _ rfl, h.rng i hi 4 _ rfl, h.rng i hi 5 _ rfl, h.rng i hi 6 _ rfl⟩, h.lt⟩
theorem EntW.put (h : EntW w g n P X O) (q : Nat) (hq : q < n) (p : Int) (x : Nat) (o : Int) : EntW (w.setCells g (q * 7) (entC p x o)) g n (upd P q p) (upd X q x) (upd O q o) := by
  refine ⟨fun i hi => ?_, fun j hj => by rw [World.frozen?_setCells]; exact h.fz j hj, by simp [World.setCells, entC, sizeS]; exact h.lt⟩
  by_cases e : i = q
  · subst e
    rw [upd_same, upd_same, upd_same]
    refine World.rangeAt_setCells_same _ _ _ _ fun j hj => ⟨?_, h.fz _ (by simp [entC] at hj; omega)⟩
    exact (h.rng i hi).isSome j (by simpa [entC] using hj)
  · rw [upd_off _ _ _ e, upd_off _ _ _ e, upd_off _ _ _ e]
    exact World.rangeAt_setCells_apart (h.rng i hi) _ _ _ (Or.inr (by simp [entC]; omega))
theorem EntW.alloc (h : EntW w g n P X O) (o : Obj) : EntW (w.alloc o) g n P X O :=
  ⟨fun i hi => World.rangeAt_alloc (h.rng i hi) o, fun j hj => by rw [World.frozen?_alloc_past _ _ _ h.lt]; exact h.fz j hj, by have := h.lt; rw [sizeA]; omega⟩
theorem EntW.drewN (h : EntW w g n P X O) (q : Nat) : EntW (w.drewN q) g n P X O := ⟨fun i hi => h.rng i hi, h.fz, h.lt⟩
theorem EntW.drew (h : EntW w g n P X O) : EntW w.drew g n P X O := h.drewN 1
theorem RowR.drew {P O X : Nat → Int} (h : RowR w g n P O X) : RowR w.drew g n P O X := h.drewN 1
theorem Below.drew' {B : Nat} (h : RowKit.Below B w w') : RowKit.Below B w w'.drew := Below.drewN' h 1
theorem EntW.put7 (h : EntW w g n P X O) (q : Nat) (hq : q < n) (p : Int) (x : Nat) (o : Int) :
    EntW (((((((w.setCell ⟨g, q * 7, none⟩ (.int .u32 p)).setCell ⟨g, q * 7 + 1, none⟩ (.int .u8 x)).setCell ⟨g, q * 7 + 2, none⟩ (.int .u8 0)).setCell ⟨g, q * 7 + 3, none⟩ (.int .u32 0)).setCell ⟨g, q * 7 + 4, none⟩ (.slice none 0 0)).setCell ⟨g, q * 7 + 5, none⟩ (.int .u32 0)).setCell ⟨g, q * 7 + 6, none⟩ (.int .i64 o)) g n (upd P q p) (upd X q x) (upd O q o) := by
  have := h.put q hq p x o
  simp only [entC, World.setCells] at this
  exact this
theorem EntW.made (w : World) (n : Nat) : EntW (w.alloc (.cells (madeCells #[.int .u32 0, .int .u8 0, .int .u8 0, .int .u32 0, .slice none 0 0, .int .u32 0, .int .i64 0] (n * 7)) 60)) w.heap.size n (fun _ => 0) (fun _ => 0) (fun _ => 0) := by
  have hc : ∀ j, j < n * 7 → (w.alloc (.cells (madeCells #[.int .u32 0, .int .u8 0, .int .u8 0, .int .u32 0, .slice none 0 0, .int .u32 0, .int .i64 0] (n * 7)) 60)).cell? ⟨w.heap.size, j, none⟩ = some (#[Value.int .u32 0, .int .u8 0, .int .u8 0, .int .u32 0, .slice none 0 0, .int .u32 0, .int .i64 0][j % 7]!) := fun j hj => by
    rw [cell_of_row _ _ j _ 60 (0, 0) (heapA _ _)]
    simp [madeCells, hj]
  refine ⟨fun i hi j v hv => ?_, fun j hj => by unfold World.frozen?; rw [heapA]; simp, by rw [sizeA]; omega⟩
  have hj : j < 7 := (List.getElem?_eq_some_iff.1 hv).1
  rw [hc _ (by omega), show (i * 7 + j) % 7 = j by omega]
  match j, hj with
  | 0, _ => simp [entC] at hv; subst hv; rfl
  | 1, _ => simp [entC] at hv; subst hv; rfl
  | 2, _ => simp [entC] at hv; subst hv; rfl
  | 3, _ => simp [entC] at hv; subst hv; rfl
  | 4, _ => simp [entC] at hv; subst hv; rfl
  | 5, _ => simp [entC] at hv; subst hv; rfl
  | 6, _ => simp [entC] at hv; subst hv; rfl
end

set_option maxHeartbeats 8000000 in
set_option maxRecDepth 100000 in
theorem zz_some (g0 g1 g2 n c3 c4 c5 : Nat) (a3 a4 a5 : Addr) (pos : Nat → Int) (xor : Nat → Nat) (off : Nat → Int) (P O X : Nat → Int) (w : World)
    (h0 : RowF .u32 w g0 n P) (h1 : RowF .u64 w g1 n O) (h2 : RowF .u32 w g2 n X)
    (h3 : ∀ j, j < n → w.cell? (a3.add j) = some (.int .u32 (pos j))) (h4 : ∀ j, j < n → w.cell? (a4.add j) = some (.int .u8 (xor j))) (h5 : ∀ j, j < n → w.cell? (a5.add j) = some (.int .i64 (off j)))
    (hn : n ≤ 1048576) (hp : ∀ i, i < n → 0 ≤ pos i ∧ pos i < 4294967296) (hx : ∀ i, i < n → xor i ≤ i) (ho : ∀ i, i < n → 0 ≤ off i ∧ off i ≤ 9223372036854775807) :
    Calls Try.prog 18 #[.slice (some ⟨g0, 0, none⟩) n n, .slice (some ⟨g1, 0, none⟩) n n, .slice (some ⟨g2, 0, none⟩) n n, .slice (some a3) n c3, .slice (some a4) n c4, .slice (some a5) n c5] w (CheckPost n pos xor off P O X w) := by
  have hmk3 := run_make_many (P := Try.prog) 51 53 (.agg #[.int .u32 0, .int .u64 0, .int .u32 0]) 3 24 Try.underlying51 Try.infoB53 .i64 .i64 n (by omega) (by omega)
  simp only [Value.cells] at hmk3
  have hmk7 := run_make_many (P := Try.prog) 54 60 (.agg #[.int .u32 0, .int .u8 0, .int .u8 0, .int .u32 0, .slice none 0 0, .int .u32 0, .int .i64 0]) 7 56 Try.underlying54 Try.infoB60 .i64 .i64 n (by omega) (by omega)
  simp only [Value.cells] at hmk7
  have Hh0 := hidU h0
  have Hh1 := hidU h1
  have Hh2 := hidU h2
  have Hh3 := hidU h3
  have Hh4 := hidU h4
  have Hh5 := hidU h5
  have Hhp := hidU hp
  have Hhx := hidU hx
  have Hho := hidU ho
  clear h0 h1 h2 h3 h4 h5 hp hx ho
  go_enter Try.func18, Try.ntmps18
  go_wp2_with fail
  go_loopw [24] (fun v24 wz => ∃ (q : Nat) (P' O' X' : Nat → Int), v24 = .int .i64 q ∧ q ≤ n ∧ Hid (RowKit.Below w.heap.size w wz) ∧ Hid (RowR wz w.heap.size n P' O' X') ∧ Hid (∀ t, t < q → P' t = P t ∧ O' t = O t ∧ X' t = X t)) (fun v24 _ => n - (intOf v24).toNat)
  case atStart => exact ⟨0, _, _, _, rfl, Nat.zero_le _, Below.alloc' (RowKit.Below.refl _ _) (Nat.le_refl _) _, RowR.made w n, fun t ht => by omega⟩
  case round =>
    obtain ⟨q, P', O', X', rfl, hq, HB, HR, HV⟩ := hrel
    by_cases hqn : q < n
    · have r0 := (Hh0.out.below HB.out Hh0.out.lt).cell q hqn
      have r1 := (Hh1.out.below HB.out Hh1.out.lt).cell q hqn
      have r2 := (Hh2.out.below HB.out Hh2.out.lt).cell q hqn
      obtain ⟨s0, s1, s2⟩ := HR.out.cell q hqn
      have f0 := HR.out.fz (q * 3) (by omega)
      have f1 := HR.out.fz (q * 3 + 1) (by omega)
      have f2 := HR.out.fz (q * 3 + 2) (by omega)
      go_upto_region 5 with fail
      go_region
      all_goals go_wp2_with fail
      go_roundw
      case rel =>
        refine ⟨q + 1, _, _, _, by go_num, by omega, Below.drew' (Below.set' (Below.set' (Below.set' HB.out _ _ (Nat.le_refl _) _) _ _ (Nat.le_refl _) _) _ _ (Nat.le_refl _) _), (((HR.out.setP q hqn _).setO q hqn _).setX q hqn _).drew, ?_⟩
        intro t ht
        by_cases e : t = q
        · subst e; simp only [upd_same]; exact ⟨trivial, trivial, trivial⟩
        · simp only [upd_off _ _ _ e]; exact HV.out t (by omega)
      case measure => simp [intOf]; omega
    · have HL := hidU (HR.out.congr (P' := P) (O' := O) (X' := X) (fun t ht => HV.out t (by omega)))
      have hgl : w.heap.size < wr.heap.size := HR.out.lt
      clear HR HV
      go_wp2_with fail
      go_loopw [49] (fun v49 wz => ∃ (q : Nat) (P' : Nat → Int) (X' : Nat → Nat) (O' : Nat → Int), v49 = .int .i64 q ∧ q ≤ n ∧ Hid (RowKit.Below wr.heap.size wr wz) ∧ Hid (EntW wz wr.heap.size n P' X' O') ∧ Hid (∀ t, t < q → P' t = pos t ∧ X' t = xor t ∧ O' t = off t)) (fun v49 _ => n - (intOf v49).toNat)
      case atStart => exact ⟨0, _, _, _, rfl, Nat.zero_le _, Below.alloc' (RowKit.Below.refl _ _) (Nat.le_refl _) _, EntW.made wr n, fun t ht => by omega⟩
      case round =>
        obtain ⟨q, P', X', O', rfl, hq, HB2, HR, HV⟩ := hrel
        by_cases hqn : q < n
        · have HB3 := hidU (Below.step HB.out HB2.out (Nat.le_refl _))
          have r3 := (HB3.out.cell (World.block_lt_of_cell? w _ (Hh3.out q hqn))).trans (Hh3.out q hqn)
          have r4 := (HB3.out.cell (World.block_lt_of_cell? w _ (Hh4.out q hqn))).trans (Hh4.out q hqn)
          have r5 := (HB3.out.cell (World.block_lt_of_cell? w _ (Hh5.out q hqn))).trans (Hh5.out q hqn)
          obtain ⟨s0, s1, s2, s3, s4, s5, s6⟩ := HR.out.toF.cell q hqn
          have f0 := HR.out.fz (q * 7) (by omega)
          have f1 := HR.out.fz (q * 7 + 1) (by omega)
          have f2 := HR.out.fz (q * 7 + 2) (by omega)
          have f3 := HR.out.fz (q * 7 + 3) (by omega)
          have f4 := HR.out.fz (q * 7 + 4) (by omega)
          have f5 := HR.out.fz (q * 7 + 5) (by omega)
          have f6 := HR.out.fz (q * 7 + 6) (by omega)
          go_upto_region 11 with fail
          go_region
          all_goals go_wp2_with fail
          go_roundw
          case rel =>
            refine ⟨q + 1, upd P' q (pos q), upd X' q (xor q), upd O' q (off q), by go_num, by omega, ?_, ?_, ?_⟩
            · exact Below.drew' (Below.set' (Below.set' (Below.set' (Below.set' (Below.set' (Below.set' (Below.set' HB2.out _ _ (Nat.le_refl _) _) _ _ (Nat.le_refl _) _) _ _ (Nat.le_refl _) _) _ _ (Nat.le_refl _) _) _ _ (Nat.le_refl _) _) _ _ (Nat.le_refl _) _) _ _ (Nat.le_refl _) _)
            · exact (HR.out.put7 q hqn (pos q) (xor q) (off q)).drew
            · intro t ht
              by_cases e : t = q
              · subst e; simp only [upd_same]; exact ⟨trivial, trivial, trivial⟩
              · simp only [upd_off _ _ _ e]; exact HV.out t (by omega)
          case measure => simp [intOf]; omega
        · have HB3 := hidU (Below.step HB.out HB2.out (Nat.le_refl _))
          have HE := hidU (HR.out.toF.congr (P' := pos) (X' := xor) (O' := off) (fun t ht => HV.out t (by omega)))
          have HL2 := hidU (HL.out.below HB2.out hgl)
          clear HL HR HV
          go_wp2_with fail
          refine (check_u _ _ _ n pos xor off P O X _ (HE.out.alloc _) (HL2.out.alloc _) hn Hhp.out Hhx.out Hho.out ?_ ?_).mono ?_
          · rw [cell_of_row _ _ _ _ 70 (0, 0) (heapA _ _)]; rfl
          · rw [cell_of_row _ _ _ _ 70 (0, 0) (heapA _ _)]; rfl
          rintro e w3 ⟨hb, σ, r, o1, o2, hR⟩
          have HB4 := hidU (Below.step (Below.alloc' HB3.out HB3.out.size _) hb (Nat.le_refl _))
          have HO1 := hidU o1
          have HO2 := hidU o2
          clear hb o1 o2
          rcases hR with ⟨rfl, hv⟩ | ⟨q', hq', rfl, hv, hv2⟩
          · have HV := hidU hv
            clear hv
            go_wp2_with fail
            go_ret2
            exact ⟨HB4.out, σ, r, HO1.out, HO2.out, Or.inl ⟨rfl, HV.out⟩⟩
          · have HV := hidU hv
            have HV2 := hidU hv2
            clear hv hv2
            go_wp2_with fail
            go_ret2
            exact ⟨HB4.out, σ, r, HO1.out, HO2.out, Or.inr ⟨q', hq', rfl, HV.out, HV2.out⟩⟩

set_option maxHeartbeats 8000000 in
set_option maxRecDepth 100000 in
theorem zz_zero (g0 g1 g2 n c3 c4 c5 : Nat) (a3 a4 a5 : Option Addr) (pos : Nat → Int) (xor : Nat → Nat) (off : Nat → Int) (P O X : Nat → Int) (w : World)
    (h0 : RowF .u32 w g0 n P) (h1 : RowF .u64 w g1 n O) (h2 : RowF .u32 w g2 n X)
    (hz : Hid (n = 0))
    (hn : n ≤ 1048576) (hp : ∀ i, i < n → 0 ≤ pos i ∧ pos i < 4294967296) (hx : ∀ i, i < n → xor i ≤ i) (ho : ∀ i, i < n → 0 ≤ off i ∧ off i ≤ 9223372036854775807) :
    Calls Try.prog 18 #[.slice (some ⟨g0, 0, none⟩) n n, .slice (some ⟨g1, 0, none⟩) n n, .slice (some ⟨g2, 0, none⟩) n n, .slice a3 n c3, .slice a4 n c4, .slice a5 n c5] w (CheckPost n pos xor off P O X w) := by
  have hmk3 := run_make_many (P := Try.prog) 51 53 (.agg #[.int .u32 0, .int .u64 0, .int .u32 0]) 3 24 Try.underlying51 Try.infoB53 .i64 .i64 n (by omega) (by omega)
  simp only [Value.cells] at hmk3
  have hmk7 := run_make_many (P := Try.prog) 54 60 (.agg #[.int .u32 0, .int .u8 0, .int .u8 0, .int .u32 0, .slice none 0 0, .int .u32 0, .int .i64 0]) 7 56 Try.underlying54 Try.infoB60 .i64 .i64 n (by omega) (by omega)
  simp only [Value.cells] at hmk7
  have Hh0 := hidU h0
  have Hh1 := hidU h1
  have Hh2 := hidU h2
  have Hhp := hidU hp
  have Hhx := hidU hx
  have Hho := hidU ho
  clear h0 h1 h2 hp hx ho
  go_enter Try.func18, Try.ntmps18
  go_wp2_with fail
  go_loopw [24] (fun v24 wz => ∃ (q : Nat) (P' O' X' : Nat → Int), v24 = .int .i64 q ∧ q ≤ n ∧ Hid (RowKit.Below w.heap.size w wz) ∧ Hid (RowR wz w.heap.size n P' O' X') ∧ Hid (∀ t, t < q → P' t = P t ∧ O' t = O t ∧ X' t = X t)) (fun v24 _ => n - (intOf v24).toNat)
  case atStart => exact ⟨0, _, _, _, rfl, Nat.zero_le _, Below.alloc' (RowKit.Below.refl _ _) (Nat.le_refl _) _, RowR.made w n, fun t ht => by omega⟩
  case round =>
    obtain ⟨q, P', O', X', rfl, hq, HB, HR, HV⟩ := hrel
    by_cases hqn : q < n
    · exfalso; have := hz.out; omega
    · have HL := hidU (HR.out.congr (P' := P) (O' := O) (X' := X) (fun t ht => HV.out t (by omega)))
      have hgl : w.heap.size < wr.heap.size := HR.out.lt
      clear HR HV
      go_wp2_with fail
      go_loopw [49] (fun v49 wz => ∃ (q : Nat) (P' : Nat → Int) (X' : Nat → Nat) (O' : Nat → Int), v49 = .int .i64 q ∧ q ≤ n ∧ Hid (RowKit.Below wr.heap.size wr wz) ∧ Hid (EntW wz wr.heap.size n P' X' O') ∧ Hid (∀ t, t < q → P' t = pos t ∧ X' t = xor t ∧ O' t = off t)) (fun v49 _ => n - (intOf v49).toNat)
      case atStart => exact ⟨0, _, _, _, rfl, Nat.zero_le _, Below.alloc' (RowKit.Below.refl _ _) (Nat.le_refl _) _, EntW.made wr n, fun t ht => by omega⟩
      case round =>
        obtain ⟨q, P', X', O', rfl, hq, HB2, HR, HV⟩ := hrel
        by_cases hqn : q < n
        · exfalso; have := hz.out; omega
        · have HB3 := hidU (Below.step HB.out HB2.out (Nat.le_refl _))
          have HE := hidU (HR.out.toF.congr (P' := pos) (X' := xor) (O' := off) (fun t ht => HV.out t (by omega)))
          have HL2 := hidU (HL.out.below HB2.out hgl)
          clear HL HR HV
          go_wp2_with fail
          refine (check_u _ _ _ n pos xor off P O X _ (HE.out.alloc _) (HL2.out.alloc _) hn Hhp.out Hhx.out Hho.out ?_ ?_).mono ?_
          · rw [cell_of_row _ _ _ _ 70 (0, 0) (heapA _ _)]; rfl
          · rw [cell_of_row _ _ _ _ 70 (0, 0) (heapA _ _)]; rfl
          rintro e w3 ⟨hb, σ, r, o1, o2, hR⟩
          have HB4 := hidU (Below.step (Below.alloc' HB3.out HB3.out.size _) hb (Nat.le_refl _))
          have HO1 := hidU o1
          have HO2 := hidU o2
          clear hb o1 o2
          rcases hR with ⟨rfl, hv⟩ | ⟨q', hq', rfl, hv, hv2⟩
          · have HV := hidU hv
            clear hv
            go_wp2_with fail
            go_ret2
            exact ⟨HB4.out, σ, r, HO1.out, HO2.out, Or.inl ⟨rfl, HV.out⟩⟩
          · have HV := hidU hv
            have HV2 := hidU hv2
            clear hv hv2
            go_wp2_with fail
            go_ret2
            exact ⟨HB4.out, σ, r, HO1.out, HO2.out, Or.inr ⟨q', hq', rfl, HV.out, HV2.out⟩⟩

theorem zz_u (g0 g1 g2 n c3 c4 c5 : Nat) (a3 a4 a5 : Option Addr) (pos : Nat → Int) (xor : Nat → Nat) (off : Nat → Int) (P O X : Nat → Int) (w : World)
    (h0 : RowF .u32 w g0 n P) (h1 : RowF .u64 w g1 n O) (h2 : RowF .u32 w g2 n X)
    (h3 : Src .u32 w a3 n pos) (h4 : Src .u8 w a4 n (fun i => (xor i : Int))) (h5 : Src .i64 w a5 n off)
    (hn : n ≤ 1048576) (hp : ∀ i, i < n → 0 ≤ pos i ∧ pos i < 4294967296) (hx : ∀ i, i < n → xor i ≤ i) (ho : ∀ i, i < n → 0 ≤ off i ∧ off i ≤ 9223372036854775807) :
    Calls Try.prog 18 #[.slice (some ⟨g0, 0, none⟩) n n, .slice (some ⟨g1, 0, none⟩) n n, .slice (some ⟨g2, 0, none⟩) n n, .slice a3 n c3, .slice a4 n c4, .slice a5 n c5] w (CheckPost n pos xor off P O X w) := by
  by_cases hz : n = 0
  · exact zz_zero g0 g1 g2 n c3 c4 c5 a3 a4 a5 pos xor off P O X w h0 h1 h2 (hidU hz) hn hp hx ho
  · obtain ⟨d3, rfl, k3⟩ := h3.some (by omega)
    obtain ⟨d4, rfl, k4⟩ := h4.some (by omega)
    obtain ⟨d5, rfl, k5⟩ := h5.some (by omega)
    exact zz_some g0 g1 g2 n c3 c4 c5 d3 d4 d5 pos xor off P O X w h0 h1 h2 k3 k4 k5 hn hp hx ho
end Go.Proofs.Qxb6605873a
