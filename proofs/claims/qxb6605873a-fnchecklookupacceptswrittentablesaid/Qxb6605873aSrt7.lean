/-
  The library's sort at uint64: math/bits.Len (29) by the shelf; nextPowerOfTwo (42); (*xorshift).Next (43); breakPatternsOrdered (32).
-/
import Derived.Test.Qxb6605873aSrt6
import Derived.Test.Qxb6605873aSrt4
import Derived.Shelf.Small.Bits
import Derived.Shelf.Lay
import Derived.Ground.NamesProg
namespace Go.Proofs.Qxb6605873a
open Go.RowKit Go.Sort Go.Shelf
set_option linter.unusedSimpArgs false
set_option linter.unusedVariables false

shelf_lay Lays.n125 Nm 125 at Try as Try.bitsLen

theorem bitsLen_u (x : Nat) (w : World) (h : x ≤ 1048576) : Calls Try.prog 29 #[.int .u64 x] w fun e w' => e = .returned (.int .i64 (Lib.bitLen x)) ∧ w = w' := by
  have hc := Any.bits_Len Try.bitsLen x w (by omega) (by omega)
  change Calls Try.prog 29 _ _ _ at hc
  exact hc.mono fun _ _ ⟨he, hw⟩ => ⟨by simpa using he, hw.symm⟩

theorem bitLen_pow (x : Nat) (h0 : x ≠ 0) (h : x < 2 ^ 64) : 2 ^ Lib.bitLen x ≤ 2 * x := by
  induction x using Nat.strongRecOn with
  | _ x ih =>
    rw [Lib.bitLen_half x h0 h]
    by_cases h1 : x = 1
    · subst h1; decide
    · have := ih (x / 2) (by omega) (by omega) (by omega)
      rw [Nat.pow_add]
      omega
theorem bitLen_lt (x : Nat) (h : x ≤ 1048576) : Lib.bitLen x ≤ 21 := by
  by_cases h0 : x = 0
  · subst h0; decide
  · have := bitLen_pow x h0 (by omega)
    rcases Nat.lt_or_ge 21 (Lib.bitLen x) with h1 | h1
    · have h2 : 2 ^ 22 ≤ 2 ^ Lib.bitLen x := Nat.pow_le_pow_right (by decide) h1
      omega
    · exact h1
theorem wrap_pow (k : Nat) (hk : k ≤ 21) : IntKind.u64.wrap ((2 : Int) ^ k) = ((2 ^ k : Nat) : Int) := by
  have h : (2 : Nat) ^ k ≤ 2 ^ 21 := Nat.pow_le_pow_right (by decide) hk
  rw [IntKind.wrap_u64, show ((2 : Int) ^ k) = ((2 ^ k : Nat) : Int) by push_cast; rfl]
  generalize (2 : Nat) ^ k = p at h
  omega

theorem npow_u (x : Nat) (w : World) (h : x ≤ 1048576) : Calls Try.prog 42 #[.int .i64 x] w fun e w' => e = .returned (.int .u64 ((2 ^ Lib.bitLen x : Nat) : Int)) ∧ w = w' := by
  have hk := bitLen_lt x h
  have hp := wrap_pow _ hk
  have HL := hidU (bitsLen_u x w h)
  go_enter Try.func42, Try.ntmps42
  go_wp2_with (go_at_call 29; refine HL.out.mono ?_; rintro e w' ⟨rfl, rfl⟩)
  go_ret
  exact ⟨rfl, rfl⟩

/-- The random number's cell. -/
def CtU (w : World) (s : Nat) : Prop := ∃ z : Int, w.cell? ⟨s, 0, none⟩ = some (.int .u64 z) ∧ w.frozen? ⟨s, 0, none⟩ = false

theorem xor_range (a b : Int) : 0 ≤ bits .xor .u64 a b ∧ bits .xor .u64 a b < 18446744073709551616 := by
  simp only [bits, IntKind.wrap_u64]; omega

theorem RowU.step {w0 w w' : World} {g o n s : Nat} {d : Array Int} (h : RowU w0 g o n w d) (hg : w.grownBy w' (some s)) (hne : s ≠ g) (hs : w0.heap.size ≤ s) : RowU w0 g o n w' d := by
  have hb : ∀ t, t < n → w'.heap[g]? = w.heap[g]? := fun t ht => hg.block g (World.block_lt_of_cell? w _ (h.cell t ht)) (by simpa using fun e => hne e.symm)
  exact ⟨h.size, fun t ht => (World.cell?_of_block (by exact hb t ht)).trans (h.cell t ht), fun t ht => (World.frozen?_of_block (by exact hb t ht)).trans (h.fz t ht),
    ⟨hg.os.trans h.grown.os, hg.tape.trans h.grown.tape, hg.output.trans h.grown.output, Nat.le_trans h.grown.size hg.size, fun k hk hk2 => (hg.block k (Nat.lt_of_lt_of_le hk h.grown.size) (by simp; omega)).trans (h.grown.block k hk hk2)⟩⟩

theorem CtU.keepSet {w : World} {s g : Nat} (h : CtU w s) (hne : s ≠ g) (p q : Nat) (u v : Value) : CtU ((w.setCell ⟨g, p, none⟩ u).setCell ⟨g, q, none⟩ v).drew s := by
  obtain ⟨z, h1, h2⟩ := h
  refine ⟨z, ?_, ?_⟩
  · show ((w.setCell ⟨g, p, none⟩ u).setCell ⟨g, q, none⟩ v).cell? _ = _
    rw [World.cell?_setCell_other _ _ _ _ (fun e => hne (by injection e; omega)), World.cell?_setCell_other _ _ _ _ (fun e => hne (by injection e; omega))]; exact h1
  · show ((w.setCell ⟨g, p, none⟩ u).setCell ⟨g, q, none⟩ v).frozen? _ = _
    rw [World.frozen?_setCell, World.frozen?_setCell]; exact h2
theorem setU {w : World} {s : Nat} {z : Int} (h1 : w.cell? ⟨s, 0, none⟩ = some (.int .u64 z)) (h2 : w.frozen? ⟨s, 0, none⟩ = false) (v : Int) :
    (w.setCell ⟨s, 0, none⟩ (.int .u64 v)).drew.cell? ⟨s, 0, none⟩ = some (.int .u64 v) ∧ (w.setCell ⟨s, 0, none⟩ (.int .u64 v)).drew.frozen? ⟨s, 0, none⟩ = false ∧ w.grownBy (w.setCell ⟨s, 0, none⟩ (.int .u64 v)).drew (some s) :=
  ⟨World.cell?_setCell_same' w _ _ (by rw [h1]; rfl), (World.frozen?_setCell _ _ _ _).trans h2, ⟨rfl, rfl, rfl, by show _ ≤ (w.setCell _ _).heap.size; simp [World.setCell], fun k hk hne => Below.heap_setCell _ _ _ _ (by simpa using hne)⟩⟩

set_option maxHeartbeats 2000000 in
theorem next_u (s : Nat) (w : World) (h : CtU w s) : Calls Try.prog 43 #[.pointer (some ⟨s, 0, none⟩)] w fun e w' => ∃ r : Int, e = .returned (.int .u64 r) ∧ 0 ≤ r ∧ r < 18446744073709551616 ∧ CtU w' s ∧ w.grownBy w' (some s) := by
  obtain ⟨z, h1, h2⟩ := h
  go_enter Try.func43, Try.ntmps43
  go_wp2_with fail
  go_region
  generalize bits BinOp.xor IntKind.u64 z _ = v1
  obtain ⟨c1, f1, g1⟩ := setU h1 h2 v1
  have G1 := hidU g1
  clear h1 h2 g1
  generalize World.drew _ = w1 at *
  go_wp2_with fail
  go_region
  generalize bits BinOp.xor IntKind.u64 v1 _ = v2
  obtain ⟨c2, f2, g2⟩ := setU c1 f1 v2
  have G2 := hidU (grown_trans G1.out g2)
  clear c1 f1 g2 G1
  generalize World.drew _ = w2 at *
  go_wp2_with fail
  go_region
  generalize hv : IntKind.u64.wrap (v2 * _) = y
  have hr := xor_range v2 y
  clear hv
  generalize bits BinOp.xor IntKind.u64 v2 y = v3 at *
  obtain ⟨c3, f3, g3⟩ := setU c2 f2 v3
  have G3 := hidU (grown_trans G2.out g3)
  clear c2 f2 g3 G2
  generalize World.drew _ = w3 at *
  go_wp2_with fail
  go_ret
  exact ⟨v3, rfl, hr.1, hr.2, ⟨v3, c3, f3⟩, G3.out⟩

theorem mask_u (l : Nat) (h0 : l ≠ 0) (h : l ≤ 1048576) (r : Int) (hr0 : 0 ≤ r) (hr1 : r < 18446744073709551616) : ∃ x : Nat, bits .and .u64 r (((2 ^ Lib.bitLen l : Nat) : Int) - 1) = (x : Int) ∧ x < 2 * l := by
  have hk := bitLen_lt l h
  have hM := bitLen_pow l h0 (by omega)
  have hm := bits_mask .u64 64 (by decide) (fun n h0 h1 => by rw [IntKind.wrap_u64]; omega) (Lib.bitLen l) (by omega) r hr0 (by omega)
  have e : (((2 ^ Lib.bitLen l : Nat) : Int) - 1) = 2 ^ Lib.bitLen l - 1 := by push_cast; rfl
  have hp : (0 : Int) < 2 ^ Lib.bitLen l := by exact_mod_cast Nat.two_pow_pos (Lib.bitLen l)
  have h4 : (2 : Int) ^ Lib.bitLen l ≤ 2 * l := by exact_mod_cast hM
  rw [e, hm]
  generalize (2 : Int) ^ Lib.bitLen l = P at hp h4
  have h1 := Int.emod_nonneg r (show P ≠ 0 from by omega)
  have h2 := Int.emod_lt_of_pos r hp
  exact ⟨(r % P).toNat, by omega, by omega⟩

set_option maxHeartbeats 8000000 in
set_option maxRecDepth 100000 in
theorem break_u (g o n cap a b : Nat) (d : Array Int) (w : World) (h : RowU w g o n w d) (hab : a ≤ b) (hb : b ≤ n) (hn : n ≤ 1048576) :
    Calls Try.prog 32 #[.slice (some ⟨g, o, none⟩) n cap, .int .i64 a, .int .i64 b] w fun e w' => e = .returned (.tuple #[]) ∧ ∃ d', RowU w g o n w' d' ∧ PermIn a b d d' := by
  obtain ⟨l, hl⟩ : ∃ l, l = b - a := ⟨_, rfl⟩
  obtain ⟨q, hq⟩ : ∃ q, q = l / 4 := ⟨_, rfl⟩
  have hsub : (b : Int) - (a : Int) = (l : Int) := by omega
  have hdiv : (l : Int).tdiv 4 = (q : Int) := by rw [Int.tdiv_eq_ediv_of_nonneg (by omega)]; omega
  by_cases h8 : 8 ≤ l
  · have hgs : g < w.heap.size := World.block_lt_of_cell? w _ (h.cell a (by omega))
    have hne : w.heap.size ≠ g := by omega
    obtain ⟨c, hc⟩ : ∃ c, c = a + q * 2 := ⟨_, rfl⟩
    have hcz : (a : Int) + (q : Int) * 2 = (c : Int) := by omega
    have c1 : a + 1 ≤ c := by omega
    have c2 : c + 1 < b := by omega
    have hal : a + l = b := by omega
    have hk := bitLen_lt l (by omega)
    have hM := bitLen_pow l (by omega) (by omega)
    have HM := hidU (mask_u l (by omega) (by omega))
    have hM1 : 1 ≤ 2 ^ Lib.bitLen l := Nat.two_pow_pos _
    have HP := hidU (npow_u l)
    generalize 2 ^ Lib.bitLen l = M at *
    have H0 := hidU h
    have HS := hidU (show RowU w g o n (w.alloc (.cells #[.int .u64 l] 87)) d from h.step (s := w.heap.size) (World.grownBy_alloc _ _ _) hne (Nat.le_refl _))
    have HC := hidU (show CtU (w.alloc (.cells #[.int .u64 l] 87)) w.heap.size from ⟨l, by rw [cell_of_row _ _ _ _ _ _ (heap_alloc_new _ _)]; rfl, by simp only [World.frozen?, heap_alloc_new]; rfl⟩)
    clear h hl hq hc hk
    go_enter Try.func32, Try.ntmps32
    go_upto_region 3 with fail
    generalize w.alloc (.cells #[.int .u64 l] 87) = W at *
    obtain ⟨s, hs⟩ : ∃ s, s = w.heap.size := ⟨_, rfl⟩
    have HSZ : Hid (w.heap.size ≤ s) := by show _ ≤ _; omega
    rw [← hs] at hne HC ⊢
    clear hs
    go_wp2_with (go_at_call 42; refine (HP.out _ (by omega)).mono ?_; rintro e w' ⟨rfl, rfl⟩)
    go_loopw [9, 10] (fun vi _ wr => ∃ (i : Nat) (dk : Array Int), vi = .int .i64 i ∧ c - 1 ≤ i ∧ i ≤ c + 2 ∧ Hid (RowU w g o n wr dk) ∧ Hid (CtU wr s) ∧ Hid (PermIn a b d dk)) (fun vi _ _ => c + 2 - (intOf vi).toNat)
    case atStart => exact ⟨c - 1, d, by congr 1; omega, Nat.le_refl _, by omega, HS, HC, permIn_refl _ _ _⟩
    case round =>
      obtain ⟨i, dk, rfl, hi1, hi2, HR, HCr, HPm⟩ := hrel
      by_cases hi : i ≤ c + 1
      · have hiz : (i : Int) ≤ (c : Int) + 1 := by omega
        go_wp2_with fail
        refine (next_u s wr HCr.out).mono ?_
        rintro e wr2 ⟨r, rfl, hr0, hr1, hcu, hgu⟩
        have HR2 := hidU (HR.out.step hgu hne HSZ.out)
        have HC2 := hidU hcu
        obtain ⟨x, hx, hxl⟩ := HM.out r hr0 hr1
        clear hcu hgu
        by_cases hlx : l ≤ x
        · have hlz : (l : Int) ≤ (x : Int) := by omega
          obtain ⟨y, hy⟩ : ∃ y, x = l + y := ⟨x - l, by omega⟩
          have hyz : (x : Int) - (l : Int) = (y : Int) := by omega
          have hyl : y < l := by omega
          clear hy
          have p1 : a + y < n := by omega
          have p2 : i < n := by omega
          obtain ⟨G, hG⟩ : ∃ G : Nat → Int, ∀ t, G t = dk[t]! := ⟨fun t => dk[t]!, fun _ => rfl⟩
          have hcw : ∀ t, t < n → wr2.cell? ⟨g, o + t, none⟩ = some (.int .u64 (G t)) := fun t ht => by rw [hG]; exact HR2.out.cell t ht
          have hfw : ∀ t, t < n → wr2.frozen? ⟨g, o + t, none⟩ = false := HR2.out.fz
          have hmid := HR2.out.mid i (a + y) p2 p1
          have HSw := hidU (HR2.out.swapD i (a + y) p2 p1)
          rw [← hG] at hmid
          rw [← hG, ← hG] at HSw
          have HP' : Hid (PermIn a b d (swp dk i (a + y))) := permIn_trans _ _ _ _ _ HPm.out (swp_permIn _ _ _ _ _ (by omega) (by omega) (by omega) (by omega) (by have := HR.out.size; omega))
          have HC3 : Hid (CtU ((wr2.setCell ⟨g, o + i, none⟩ (.int .u64 (G (a + y)))).setCell ⟨g, o + (a + y), none⟩ (.int .u64 (G i))).drew s) := HC2.out.keepSet hne _ _ _ _
          clear hG
          go_wp2_with fail
          go_region
          clear hmid hcw hfw
          generalize World.drew _ = wr3 at *
          go_wp2_with fail
          go_roundw
          case rel => exact ⟨i + 1, _, by go_num, by omega, by omega, HSw, HC3, HP'⟩
          case measure => simp [intOf]; omega
        · have hlz : ¬ ((l : Int) ≤ (x : Int)) := by omega
          have p1 : a + x < n := by omega
          have p2 : i < n := by omega
          obtain ⟨G, hG⟩ : ∃ G : Nat → Int, ∀ t, G t = dk[t]! := ⟨fun t => dk[t]!, fun _ => rfl⟩
          have hcw : ∀ t, t < n → wr2.cell? ⟨g, o + t, none⟩ = some (.int .u64 (G t)) := fun t ht => by rw [hG]; exact HR2.out.cell t ht
          have hfw : ∀ t, t < n → wr2.frozen? ⟨g, o + t, none⟩ = false := HR2.out.fz
          have hmid := HR2.out.mid i (a + x) p2 p1
          have HSw := hidU (HR2.out.swapD i (a + x) p2 p1)
          rw [← hG] at hmid
          rw [← hG, ← hG] at HSw
          have HP' : Hid (PermIn a b d (swp dk i (a + x))) := permIn_trans _ _ _ _ _ HPm.out (swp_permIn _ _ _ _ _ (by omega) (by omega) (by omega) (by omega) (by have := HR.out.size; omega))
          have HC3 : Hid (CtU ((wr2.setCell ⟨g, o + i, none⟩ (.int .u64 (G (a + x)))).setCell ⟨g, o + (a + x), none⟩ (.int .u64 (G i))).drew s) := HC2.out.keepSet hne _ _ _ _
          clear hG
          go_wp2_with fail
          go_region
          clear hmid hcw hfw
          generalize World.drew _ = wr3 at *
          go_wp2_with fail
          go_roundw
          case rel => exact ⟨i + 1, _, by go_num, by omega, by omega, HSw, HC3, HP'⟩
          case measure => simp [intOf]; omega
      · have hiz : ¬ ((i : Int) ≤ (c : Int) + 1) := by omega
        go_wp2_with fail
        go_end0
        exact ⟨rfl, dk, HR.out, HPm.out⟩
  · have H0 := hidU h
    go_enter Try.func32, Try.ntmps32
    go_wp2_with fail
    go_end0
    exact ⟨rfl, d, H0.out, permIn_refl _ _ _⟩
end Go.Proofs.Qxb6605873a
