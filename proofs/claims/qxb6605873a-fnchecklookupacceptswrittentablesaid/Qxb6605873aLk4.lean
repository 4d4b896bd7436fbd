/-
  lookupRows (26).
-/
import Derived.Test.Qxb6605873aSrtA
import Derived.Deep.CutRange
import Derived.Deep.MidRow
namespace Go.Proofs.Qxb6605873a
open Go.RowKit Go.Sort
set_option linter.unusedSimpArgs false
set_option linter.unusedVariables false

theorem Try.infoB23 : (Try.prog.info? 23).map (fun i => (i.zero, i.size, i.bytes)) = some (some (.int .u64 0), 1, 8) := by kernel_rfl
theorem Try.infoB53 : (Try.prog.info? 53).map (fun i => (i.zero, i.size, i.bytes)) = some (some (.agg #[.int .u32 0, .int .u64 0, .int .u32 0]), 3, 24) := by kernel_rfl

/-- 'make' of n elements of more cells than one. -/
theorem run_make_many {P : Program} (t e : TypeId) (z : Value) (sz bytes : Nat) (ht : P.underlying t = some (.slice e)) (hinfo : (P.info? e).map (fun i => (i.zero, i.size, i.bytes)) = some (some z, sz, bytes))
    (kl kc : IntKind) (n : Nat) (hbytes : bytes * n ≤ 281474976710656) (h63 : n ≤ 9223372036854775807) (w : World) :
    (Instr.makeSlice t (.int kl (n : Int)) (.int kc (n : Int))).run P w = .ok (.slice (some ⟨w.heap.size, 0, none⟩) n n) (w.alloc (.cells (madeCells z.cells (n * sz)) e)) := by
  obtain ⟨i, hi, hzz⟩ := Option.map_eq_some_iff.1 hinfo
  simp only [Prod.mk.injEq] at hzz
  obtain ⟨hz, hs, hb⟩ := hzz
  have hb' : (i.bytes : Int) * (n : Int) ≤ 281474976710656 := by
    have h : ((i.bytes * n : Nat) : Int) ≤ 281474976710656 := by rw [hb]; omega
    rwa [Int.natCast_mul] at h
  have hr := run_make (P := P) w t e i z ht hi hz kl kc n n (by omega) (Int.le_refl _) hb' (by omega)
  simp only [Int.toNat_natCast, hs] at hr
  exact hr

/-- Block g holds n entries of seven cells each. -/
structure EntF (w : World) (g n : Nat) (pos : Nat → Int) (xor : Nat → Nat) (off : Nat → Int) : Prop where
  cell : ∀ i, i < n → w.cell? ⟨g, i * 7, none⟩ = some (.int .u32 (pos i)) ∧ w.cell? ⟨g, i * 7 + 1, none⟩ = some (.int .u8 (xor i)) ∧ w.cell? ⟨g, i * 7 + 2, none⟩ = some (.int .u8 0) ∧
    w.cell? ⟨g, i * 7 + 3, none⟩ = some (.int .u32 0) ∧ w.cell? ⟨g, i * 7 + 4, none⟩ = some (.slice none 0 0) ∧ w.cell? ⟨g, i * 7 + 5, none⟩ = some (.int .u32 0) ∧ w.cell? ⟨g, i * 7 + 6, none⟩ = some (.int .i64 (off i))
  lt : g < w.heap.size

theorem EntF.below {w w' : World} {g n B : Nat} {pos : Nat → Int} {xor : Nat → Nat} {off : Nat → Int} (h : EntF w g n pos xor off) (hb : RowKit.Below B w w') (hB : g < B) : EntF w' g n pos xor off := by
  have e : ∀ o, w'.cell? ⟨g, o, none⟩ = w.cell? ⟨g, o, none⟩ := fun o => hb.cell hB
  refine ⟨fun i hi => ?_, Nat.lt_of_lt_of_le h.lt hb.size⟩
  simp only [e]; exact h.cell i hi

/-- Block g holds n lookup rows of three cells each, which may be written. -/
structure RowR (w : World) (g n : Nat) (P O X : Nat → Int) : Prop where
  cell : ∀ i, i < n → w.cell? ⟨g, i * 3, none⟩ = some (.int .u32 (P i)) ∧ w.cell? ⟨g, i * 3 + 1, none⟩ = some (.int .u64 (O i)) ∧ w.cell? ⟨g, i * 3 + 2, none⟩ = some (.int .u32 (X i))
  fz : ∀ j, j < n * 3 → w.frozen? ⟨g, j, none⟩ = false
  lt : g < w.heap.size

section
variable {w w' : World} {g n : Nat} {P O X : Nat → Int}
theorem RowR.setP (h : RowR w g n P O X) (q : Nat) (hq : q < n) (z : Int) : RowR (w.setCell ⟨g, q * 3, none⟩ (.int .u32 z)) g n (upd P q z) O X := by
  refine ⟨fun i hi => ?_, fun j hj => by rw [World.frozen?_setCell]; exact h.fz j hj, by simpa [World.setCell] using h.lt⟩
  obtain ⟨a, b, c⟩ := h.cell i hi
  refine ⟨?_, ?_, ?_⟩
  · by_cases e : i = q
    · subst e; rw [World.cell?_setCell_same' w _ _ (by rw [a]; rfl), upd_same]
    · rw [World.cell?_setCell_other _ _ _ _ (fun h => by injection h; omega), a, upd_off _ _ _ e]
  · rw [World.cell?_setCell_other _ _ _ _ (fun h => by injection h; omega), b]
  · rw [World.cell?_setCell_other _ _ _ _ (fun h => by injection h; omega), c]
theorem RowR.setO (h : RowR w g n P O X) (q : Nat) (hq : q < n) (z : Int) : RowR (w.setCell ⟨g, q * 3 + 1, none⟩ (.int .u64 z)) g n P (upd O q z) X := by
  refine ⟨fun i hi => ?_, fun j hj => by rw [World.frozen?_setCell]; exact h.fz j hj, by simpa [World.setCell] using h.lt⟩
  obtain ⟨a, b, c⟩ := h.cell i hi
  refine ⟨?_, ?_, ?_⟩
  · rw [World.cell?_setCell_other _ _ _ _ (fun h => by injection h; omega), a]
  · by_cases e : i = q
    · subst e; rw [World.cell?_setCell_same' w _ _ (by rw [b]; rfl), upd_same]
    · rw [World.cell?_setCell_other _ _ _ _ (fun h => by injection h; omega), b, upd_off _ _ _ e]
  · rw [World.cell?_setCell_other _ _ _ _ (fun h => by injection h; omega), c]
theorem RowR.setX (h : RowR w g n P O X) (q : Nat) (hq : q < n) (z : Int) : RowR (w.setCell ⟨g, q * 3 + 2, none⟩ (.int .u32 z)) g n P O (upd X q z) := by
  refine ⟨fun i hi => ?_, fun j hj => by rw [World.frozen?_setCell]; exact h.fz j hj, by simpa [World.setCell] using h.lt⟩
  obtain ⟨a, b, c⟩ := h.cell i hi
  refine ⟨?_, ?_, ?_⟩
  · rw [World.cell?_setCell_other _ _ _ _ (fun h => by injection h; omega), a]
  · rw [World.cell?_setCell_other _ _ _ _ (fun h => by injection h; omega), b]
  · by_cases e : i = q
    · subst e; rw [World.cell?_setCell_same' w _ _ (by rw [c]; rfl), upd_same]
    · rw [World.cell?_setCell_other _ _ _ _ (fun h => by injection h; omega), c, upd_off _ _ _ e]
theorem RowR.alloc (h : RowR w g n P O X) (o : Obj) : RowR (w.alloc o) g n P O X := by
  have e : ∀ j, (w.alloc o).cell? ⟨g, j, none⟩ = w.cell? ⟨g, j, none⟩ := fun j => World.cell?_alloc_lt _ _ _ h.lt
  refine ⟨fun i hi => ?_, fun j hj => by rw [World.frozen?_alloc_past _ _ _ h.lt]; exact h.fz j hj, by have := h.lt; rw [sizeA]; omega⟩
  simp only [e]; exact h.cell i hi
theorem RowR.drewN (h : RowR w g n P O X) (q : Nat) : RowR (w.drewN q) g n P O X := ⟨h.cell, h.fz, h.lt⟩
theorem RowR.below {B : Nat} (h : RowR w g n P O X) (hb : RowKit.Below B w w') (hB : g < B) : RowR w' g n P O X := by
  have e : ∀ o, w'.cell? ⟨g, o, none⟩ = w.cell? ⟨g, o, none⟩ := fun o => hb.cell hB
  have eb := hb.block g hB
  refine ⟨fun i hi => by simp only [e]; exact h.cell i hi, fun j hj => ?_, Nat.lt_of_lt_of_le h.lt hb.size⟩
  have := h.fz j hj
  simp only [World.frozen?] at this ⊢
  rw [eb]; exact this
theorem RowR.congr (h : RowR w g n P O X) {P' O' X' : Nat → Int} (e : ∀ t, t < n → P t = P' t ∧ O t = O' t ∧ X t = X' t) : RowR w g n P' O' X' :=
  ⟨fun i hi => by obtain ⟨a, b, c⟩ := e i hi; rw [← a, ← b, ← c]; exact h.cell i hi, h.fz, h.lt⟩
theorem RowR.made (w : World) (n : Nat) : RowR (w.alloc (.cells (madeCells #[.int .u32 0, .int .u64 0, .int .u32 0] (n * 3)) 53)) w.heap.size n (fun _ => 0) (fun _ => 0) (fun _ => 0) := by
  have hc : ∀ j, j < n * 3 → (w.alloc (.cells (madeCells #[.int .u32 0, .int .u64 0, .int .u32 0] (n * 3)) 53)).cell? ⟨w.heap.size, j, none⟩ = some (#[Value.int .u32 0, .int .u64 0, .int .u32 0][j % 3]!) := fun j hj => by
    rw [cell_of_row _ _ j _ 53 (0, 0) (heapA _ _)]
    simp [madeCells, hj]
  refine ⟨fun i hi => ?_, fun j hj => by unfold World.frozen?; rw [heapA]; simp, by rw [sizeA]; omega⟩
  refine ⟨?_, ?_, ?_⟩
  · rw [hc _ (by omega), show i * 3 % 3 = 0 by omega]; rfl
  · rw [hc _ (by omega), show (i * 3 + 1) % 3 = 1 by omega]; rfl
  · rw [hc _ (by omega), show (i * 3 + 2) % 3 = 2 by omega]; rfl
end

theorem sizeS (w : World) (a : Addr) (v : Value) : (w.setCell a v).heap.size = w.heap.size := by simp [World.setCell]

theorem RowF.toU {w : World} {g n : Nat} {f : Nat → Int} (h : RowF .u64 w g n f) : RowU w g 0 n w ((Array.range n).map f) := by
  refine ⟨by simp, fun t ht => ?_, fun t ht => ?_, ⟨rfl, rfl, rfl, Nat.le_refl _, fun _ _ _ => rfl⟩⟩
  · rw [Nat.zero_add, getElem!_pos _ t (by simpa using ht)]
    simpa using h.cell t ht
  · rw [Nat.zero_add]; exact h.fz t ht

theorem RowU.toF {w0 w : World} {g n : Nat} {d : Array Int} (h : RowU w0 g 0 n w d) (hg : g < w0.heap.size) : RowF .u64 w g n (fun t => d[t]!) :=
  ⟨fun t ht => by have := h.cell t ht; rwa [Nat.zero_add] at this, fun t ht => by have := h.fz t ht; rwa [Nat.zero_add] at this, Nat.lt_of_lt_of_le hg h.grown.size⟩

theorem key_bits (p : Int) (k : Nat) (h0 : 0 ≤ p) (h1 : p < 4294967296) (hk : k < 4294967296) : bits BinOp.or IntKind.u64 (IntKind.u64.wrap (IntKind.u64.wrap p * 4294967296)) k = p * 4294967296 + k := by
  have w64 : ∀ n : Int, 0 ≤ n → n < 2 ^ 64 → IntKind.u64.wrap n = n := fun n h₀ h₁ => by rw [IntKind.wrap_u64]; omega
  obtain ⟨P, rfl⟩ : ∃ P : Nat, p = P := ⟨p.toNat, by omega⟩
  rw [w64 (P : Int) (by omega) (by omega), w64 ((P : Int) * 4294967296) (by omega) (by omega)]
  have e : (P : Int) * 4294967296 = ((2 ^ 32 * P : Nat) : Int) := by omega
  rw [e, (bits_nat .u64 64 (by decide) w64 _ _ (by omega) (by omega)).2]
  rw [← Nat.two_pow_add_eq_or_of_lt (show k < 2 ^ 32 by omega)]
  omega

theorem key_low (pos : Nat → Int) (i : Nat) (hi : i < 4294967296) : IntKind.u32.wrap (keyOf pos i) = i := by
  unfold keyOf; rw [IntKind.wrap_u32]; omega

/-- The row of the entry that entry i is XORed against, or NotXORed. -/
def rowX (xor r : Nat → Nat) (i : Nat) : Int := if xor i = 0 then 4294967295 else (r (i - xor i) : Int)

def RowsPost (n : Nat) (pos : Nat → Int) (xor : Nat → Nat) (off : Nat → Int) (w : World) (e : Ending) (w' : World) : Prop :=
  ∃ g, e = .returned (.slice (some ⟨g, 0, none⟩) n n) ∧ w.heap.size ≤ g ∧ RowKit.Below w.heap.size w w' ∧ ∃ σ r : Nat → Nat, Ord n (keyOf pos) σ ∧ (∀ q, q < n → r (σ q) = q) ∧
    RowR w' g n (fun q => pos (σ q)) (fun q => off (σ q)) (fun q => rowX xor r (σ q))

set_option maxHeartbeats 8000000 in
set_option maxRecDepth 100000 in
theorem rows_u (ge n cap : Nat) (pos : Nat → Int) (xor : Nat → Nat) (off : Nat → Int) (w : World) (hE : EntF w ge n pos xor off) (hn : n ≤ 1048576) (hp : ∀ i, i < n → 0 ≤ pos i ∧ pos i < 4294967296) (hx : ∀ i, i < n → xor i ≤ i) (ho : ∀ i, i < n → 0 ≤ off i ∧ off i ≤ 9223372036854775807) :
    Calls Try.prog 26 #[.slice (some ⟨ge, 0, none⟩) n cap] w (RowsPost n pos xor off w) := by
  have hmk := run_make_row' (P := Try.prog) 33 23 (.int .u64 0) 8 Try.underlying33 Try.infoB23 rfl .i64 .i64 n (by omega) (by omega)
  have hmk2 := run_make_row' (P := Try.prog) 32 43 (.int .u32 0) 4 Try.underlying32 Try.infoB43 rfl .i64 .i64 n (by omega) (by omega)
  have hmk3 := run_make_many (P := Try.prog) 51 53 (.agg #[.int .u32 0, .int .u64 0, .int .u32 0]) 3 24 Try.underlying51 Try.infoB53 .i64 .i64 n (by omega) (by omega)
  simp only [Value.cells] at hmk3
  have HE := hidU hE
  have HP := hidU hp
  have HX := hidU hx
  have HO := hidU ho
  clear hE hp hx ho
  go_enter Try.func26, Try.ntmps26
  go_wp2_with fail
  go_loopw [19] (fun v19 wr => ∃ (k : Nat) (f : Nat → Int), v19 = .int .i64 k ∧ k ≤ n ∧ Hid (RowKit.Below w.heap.size w wr) ∧ Hid (RowF .u64 wr w.heap.size n f) ∧ Hid (∀ t, t < k → f t = keyOf pos t)) (fun v19 _ => n - (intOf v19).toNat)
  case atStart => exact ⟨0, fun _ => 0, rfl, Nat.zero_le _, Below.alloc' (RowKit.Below.refl _ _) (Nat.le_refl _) _, RowF.made .u64 w n 23, fun t ht => by omega⟩
  case round =>
    obtain ⟨k, f, rfl, hk, HB, HR, HF⟩ := hrel
    by_cases hlt : k < n
    · have hcw := HR.out.cell
      have hfw := HR.out.fz
      have hlw := HR.out.lt
      obtain ⟨e0, e1, e2, e3, e4, e5, e6⟩ := (HE.out.below HB.out HE.out.lt).cell k hlt
      go_wp2_with fail
      go_roundw
      case rel =>
        refine ⟨k + 1, upd f k (keyOf pos k), by go_num, by omega, Below.alloc' (Below.set' HB.out _ _ (Nat.le_refl _) _) ?_ _, ?_, ?_⟩
        · have := HB.out.size; simpa [World.setCell] using this
        · have e := key_bits (pos k) k (HP.out k hlt).1 (HP.out k hlt).2 (by omega)
          rw [e]; exact (HR.out.set k hlt _).alloc _
        · intro t ht
          by_cases e : t = k
          · subst e; exact upd_same _ _ _
          · rw [upd_off _ _ _ e]; exact HF.out t (by omega)
      case measure => simp [intOf]; omega
    · have hkn : n ≤ k := by omega
      have hgs := HR.out.lt
      go_wp2_with fail
      refine (sort_u w.heap.size 0 n n _ wr HR.out.toU hn).mono ?_
      rintro e w2 ⟨rfl, d', h1, h2, h3⟩
      obtain ⟨σ, o1, o2⟩ := sorted_ord n pos _ d' hn (by simp) HP.out (fun i hi => by rw [getElem!_pos _ i (by simpa using hi)]; simp; exact HF.out i (by omega)) h2 h3
      have HO1 := hidU o1
      have HK := hidU ((h1.toF hgs).congr (f' := fun q => keyOf pos (σ q)) o2)
      have HB2 := hidU (Below.grown' HB.out HB.out.size h1.grown (Nat.le_refl _))
      clear h1 h2 h3 o1 o2 HB HR HF
      have hne2 : w.heap.size ≠ w2.heap.size := by have := HK.out.lt; omega
      have hgr2 : w.heap.size ≤ w2.heap.size := HB2.out.size
      go_wp2_with fail
      go_loopw [43] (fun v43 wz => ∃ (q : Nat) (r : Nat → Nat), v43 = .int .i64 q ∧ q ≤ n ∧ Hid (RowKit.Below w.heap.size w wz) ∧ Hid (RowF .u64 wz w.heap.size n (fun q => keyOf pos (σ q))) ∧ Hid (RowF .u32 wz w2.heap.size n (fun t => (r t : Int))) ∧ Hid (∀ t, t < q → r (σ t) = t)) (fun v43 _ => n - (intOf v43).toNat)
      case atStart => exact ⟨0, fun _ => 0, rfl, Nat.zero_le _, Below.alloc' HB2.out HB2.out.size _, HK.out.alloc _, RowF.made .u32 w2 n 43, fun t ht => by omega⟩
      case round =>
        clear HB2 HK
        obtain ⟨q, r, rfl, hq, HB, HK, HG, HR⟩ := hrel
        by_cases hqn : q < n
        · have hcw := HK.out.cell
          have hcb := HG.out.cell
          have hfz := HG.out.fz
          have hsn := HO1.out.lt q hqn
          have hlow := key_low pos (σ q) (by omega)
          go_wp2_with fail
          go_roundw
          case rel =>
            refine ⟨q + 1, upd r (σ q) q, by go_num, by omega, Below.set' HB.out _ _ hgr2 _, HK.out.other _ _ hne2 _, ?_, ?_⟩
            · exact (HG.out.set (σ q) hsn q).congr (fun t ht => by unfold upd; split <;> rfl)
            · intro t ht
              by_cases e : t = q
              · subst e; exact upd_same _ _ _
              · rw [upd_off _ _ _ (fun e' => e (HO1.out.inj (by omega) hqn e'))]; exact HR.out t (by omega)
          case measure => simp [intOf]; omega
        · have hqe : n ≤ q := by omega
          have HRR : Hid (∀ t, t < n → r (σ t) = t) := hidU (fun t ht => HR.out t (by omega))
          have hne3 : w.heap.size ≠ wr.heap.size := by have := HK.out.lt; omega
          have hne4 : w2.heap.size ≠ wr.heap.size := by have := HG.out.lt; omega
          have hgr3 : w.heap.size ≤ wr.heap.size := HB.out.size
          go_wp2_with fail
          go_loopw [60] (fun v60 wz => ∃ (q : Nat) (P O X : Nat → Int), v60 = .int .i64 q ∧ q ≤ n ∧ Hid (RowKit.Below w.heap.size w wz) ∧ Hid (RowF .u64 wz w.heap.size n (fun q => keyOf pos (σ q))) ∧ Hid (RowF .u32 wz w2.heap.size n (fun t => (r t : Int))) ∧ Hid (RowR wz wr.heap.size n P O X) ∧ Hid (∀ t, t < q → P t = pos (σ t) ∧ O t = off (σ t) ∧ X t = rowX xor r (σ t))) (fun v60 _ => n - (intOf v60).toNat)
          case atStart => exact ⟨0, _, _, _, rfl, Nat.zero_le _, Below.alloc' HB.out HB.out.size _, HK.out.alloc _, HG.out.alloc _, RowR.made wr n, fun t ht => by omega⟩
          case round =>
            clear HB HK HG HR
            obtain ⟨q, P, O, X, rfl, hq, HB, HK, HG, HQ, HV⟩ := hrel
            by_cases hqn : q < n
            · have hcw := HK.out.cell
              have hcb := HG.out.cell
              have hsn := HO1.out.lt q hqn
              have hlow := key_low pos (σ q) (by omega)
              obtain ⟨r0, r1, r2⟩ := HQ.out.cell q hqn
              have f0 := HQ.out.fz (q * 3) (by omega)
              have f1 := HQ.out.fz (q * 3 + 1) (by omega)
              have f2 := HQ.out.fz (q * 3 + 2) (by omega)
              have hxx := HX.out (σ q) hsn
              have hoo := HO.out (σ q) hsn
              have hsub : σ q - xor (σ q) < n := by omega
              have hlz := HQ.out.lt
              have hlz2 := HG.out.lt
              obtain ⟨e0, e1, e2, e3, e4, e5, e6⟩ := (HE.out.below HB.out HE.out.lt).cell (σ q) hsn
              by_cases hx0 : xor (σ q) = 0
              · go_wp2_with fail
                go_roundw
                case rel =>
                  refine ⟨q + 1, _, _, _, by go_num, by omega, Below.alloc' (Below.set' (Below.set' (Below.set' HB.out _ _ hgr3 _) _ _ hgr3 _) _ _ hgr3 _) (by simp only [sizeS]; exact HB.out.size) _, (((HK.out.other _ _ hne3 _).other _ _ hne3 _).other _ _ hne3 _).alloc _, (((HG.out.other _ _ hne4 _).other _ _ hne4 _).other _ _ hne4 _).alloc _, (((HQ.out.setP q hqn _).setO q hqn _).setX q hqn _).alloc _, ?_⟩
                  intro t ht
                  by_cases e : t = q
                  · subst e; simp only [upd_same]; exact ⟨trivial, trivial, by simp [rowX, hx0]⟩
                  · simp only [upd_off _ _ _ e]; exact HV.out t (by omega)
                case measure => simp [intOf]; omega
              · go_wp2_with fail
                go_roundw
                case rel =>
                  refine ⟨q + 1, _, _, _, by go_num, by omega, Below.alloc' (Below.set' (Below.set' (Below.set' (Below.set' HB.out _ _ hgr3 _) _ _ hgr3 _) _ _ hgr3 _) _ _ hgr3 _) (by simp only [sizeS]; exact HB.out.size) _, ((((HK.out.other _ _ hne3 _).other _ _ hne3 _).other _ _ hne3 _).other _ _ hne3 _).alloc _, ((((HG.out.other _ _ hne4 _).other _ _ hne4 _).other _ _ hne4 _).other _ _ hne4 _).alloc _, ((((HQ.out.setP q hqn _).setO q hqn _).setX q hqn _).setX q hqn _).alloc _, ?_⟩
                  intro t ht
                  by_cases e : t = q
                  · subst e; simp only [upd_same]; exact ⟨trivial, trivial, by simp [rowX, hx0]⟩
                  · simp only [upd_off _ _ _ e]; exact HV.out t (by omega)
                case measure => simp [intOf]; omega
            · have hqe : n ≤ q := by omega
              go_wp2_with fail
              go_ret
              exact ⟨_, rfl, hgr3, HB.out, σ, r, HO1.out, HRR.out, HQ.out.congr (fun t ht => HV.out t (by omega))⟩
end Go.Proofs.Qxb6605873a
