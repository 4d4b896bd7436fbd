/-
  Rows of integers in blocks of their own, told by functions; sources; what Below keeps.
-/
import Derived.Test.Qxb6605873aLkC
import Derived.Test.Qxb6605873aSrt0
namespace Go.Proofs.Qxb6605873a
open Go.RowKit
set_option linter.unusedSimpArgs false
set_option linter.unusedVariables false

/-- A function turned at one place. -/
def upd {α : Type} (f : Nat → α) (i : Nat) (z : α) : Nat → α := fun t => if t = i then z else f t
theorem upd_same {α : Type} (f : Nat → α) (i : Nat) (z : α) : upd f i z i = z := if_pos rfl
theorem upd_off {α : Type} (f : Nat → α) (i : Nat) (z : α) {t : Nat} (h : t ≠ i) : upd f i z t = f t := if_neg h

theorem sizeA (w : World) (o : Obj) : (w.alloc o).heap.size = w.heap.size + 1 := by show (w.heap.push o).size = _; simp
theorem heapA (w : World) (o : Obj) : (w.alloc o).heap[w.heap.size]? = some o := by show (w.heap.push o)[w.heap.size]? = some o; simp

/-- Block g's first n cells hold the integers f 0, f 1, .. of kind k, and may be written. -/
structure RowF (k : IntKind) (w : World) (g n : Nat) (f : Nat → Int) : Prop where
  cell : ∀ t, t < n → w.cell? ⟨g, t, none⟩ = some (.int k (f t))
  fz : ∀ t, t < n → w.frozen? ⟨g, t, none⟩ = false
  lt : g < w.heap.size

section
variable {k : IntKind} {w w' : World} {g n : Nat} {f : Nat → Int}
theorem RowF.drewN (h : RowF k w g n f) (q : Nat) : RowF k (w.drewN q) g n f := ⟨h.cell, h.fz, h.lt⟩
theorem RowF.set (h : RowF k w g n f) (i : Nat) (hi : i < n) (z : Int) : RowF k (w.setCell ⟨g, i, none⟩ (.int k z)) g n (upd f i z) := by
  refine ⟨fun t ht => ?_, fun t ht => by rw [World.frozen?_setCell]; exact h.fz t ht, by simpa [World.setCell] using h.lt⟩
  by_cases e : t = i
  · subst e
    rw [World.cell?_setCell_same' w _ _ (by rw [h.cell t ht]; rfl), upd_same]
  · rw [World.cell?_setCell_other _ _ _ _ (fun h => e (by injection h; omega)), h.cell t ht, upd_off _ _ _ e]
theorem RowF.other (h : RowF k w g n f) (g' i : Nat) (hg : g ≠ g') (v : Value) : RowF k (w.setCell ⟨g', i, none⟩ v) g n f := by
  refine ⟨fun t ht => ?_, fun t ht => by rw [World.frozen?_setCell]; exact h.fz t ht, by simpa [World.setCell] using h.lt⟩
  rw [World.cell?_setCell_other _ _ _ _ (fun h => hg (by injection h; omega)), h.cell t ht]
theorem RowF.alloc (h : RowF k w g n f) (o : Obj) : RowF k (w.alloc o) g n f :=
  ⟨fun t ht => by rw [World.cell?_alloc_lt _ _ _ h.lt]; exact h.cell t ht, fun t ht => by rw [World.frozen?_alloc_past _ _ _ h.lt]; exact h.fz t ht, by have := h.lt; rw [sizeA]; omega⟩
theorem RowF.made (k : IntKind) (w : World) (n : Nat) (e : TypeId) : RowF k (w.alloc (.cells (madeCells #[Value.int k 0] n) e)) w.heap.size n (fun _ => 0) := by
  have hc : ∀ t, t < n → (w.alloc (.cells (madeCells #[Value.int k 0] n) e)).cell? ⟨w.heap.size, t, none⟩ = some (.int k 0) := fun t ht => by
    rw [cell_of_row _ _ t _ e (0, 0) (heapA _ _)]
    simp [madeCells, ht, Nat.mod_one]
  exact ⟨hc, fun t ht => by unfold World.frozen?; rw [heapA]; simp, by rw [sizeA]; omega⟩
theorem RowF.congr (h : RowF k w g n f) {f' : Nat → Int} (e : ∀ t, t < n → f t = f' t) : RowF k w g n f' := ⟨fun t ht => by rw [← e t ht]; exact h.cell t ht, h.fz, h.lt⟩
theorem RowF.below {B : Nat} (h : RowF k w g n f) (hb : Below B w w') (hg : g < B) : RowF k w' g n f := by
  have e := hb.block g hg
  refine ⟨fun t ht => by rw [hb.cell (by exact hg)]; exact h.cell t ht, fun t ht => ?_, Nat.lt_of_lt_of_le h.lt hb.size⟩
  have := h.fz t ht
  simp only [World.frozen?] at this ⊢
  rw [e]; exact this
theorem RowF.grown (h : RowF k w g n f) {p : Nat} (hb : w.grownBy w' (some p)) (hp : g ≠ p) : RowF k w' g n f := by
  have e := hb.block g h.lt (by simpa using hp)
  refine ⟨fun t ht => ?_, fun t ht => ?_, Nat.lt_of_lt_of_le h.lt hb.size⟩
  · have := h.cell t ht
    simp only [World.cell?] at this ⊢
    rw [e]; exact this
  · have := h.fz t ht
    simp only [World.frozen?] at this ⊢
    rw [e]; exact this
end

/-- A slice that is read: nil (and empty), or its elements are f 0, f 1, .. -/
structure Src (k : IntKind) (w : World) (ao : Option Addr) (n : Nat) (f : Nat → Int) : Prop where
  nil : ao = none → n = 0
  cell : ∀ ad, ao = some ad → ∀ j, j < n → w.cell? (ad.add j) = some (.int k (f j))

theorem Src.of {k : IntKind} {w : World} {ao : Option Addr} {n c : Nat} {zs : List Int} (h : SrcAt k w ao n c zs) : Src k w ao n (fun j => zs[j]?.getD 0) :=
  ⟨fun e => (h.1 e).1, h.2.2⟩
theorem Src.below {k : IntKind} {w w' : World} {ao : Option Addr} {n B : Nat} {f : Nat → Int} (h : Src k w ao n f) (hb : Below B w w') (hB : w.heap.size ≤ B) : Src k w' ao n f :=
  ⟨h.nil, fun ad ha j hj => (hb.cell (Nat.lt_of_lt_of_le (World.block_lt_of_cell? w _ (h.cell ad ha j hj)) hB)).trans (h.cell ad ha j hj)⟩
theorem Src.some {k : IntKind} {w : World} {ao : Option Addr} {n : Nat} {f : Nat → Int} (h : Src k w ao n f) (hn : 0 < n) : ∃ ad, ao = some ad ∧ ∀ j, j < n → w.cell? (ad.add j) = Option.some (.int k (f j)) := by
  cases ao with
  | none => have := h.nil rfl; omega
  | some ad => exact ⟨ad, rfl, h.cell ad rfl⟩

theorem Below.drewN' {B : Nat} {w w' : World} (h : Below B w w') (q : Nat) : Below B w (w'.drewN q) := ⟨h.os, h.tape, h.output, h.size, h.block⟩
theorem Below.set' {B : Nat} {w w' : World} (h : Below B w w') (g i : Nat) (hg : B ≤ g) (v : Value) : Below B w (w'.setCell ⟨g, i, none⟩ v) :=
  ⟨h.os, h.tape, h.output, by have := h.size; simpa [World.setCell] using this, fun k hk => by rw [Below.heap_setCell _ _ _ _ (by show k ≠ g; omega)]; exact h.block k hk⟩
theorem Below.alloc' {B : Nat} {w w' : World} (h : Below B w w') (hB : B ≤ w'.heap.size) (o : Obj) : Below B w (w'.alloc o) :=
  ⟨h.os, h.tape, h.output, by have := h.size; rw [sizeA]; omega, fun k hk => by
    have hk' : k < w'.heap.size := by omega
    rw [← h.block k hk]; show (w'.heap.push o)[k]? = _; simp [Array.getElem?_push, Nat.ne_of_lt hk']⟩
theorem Below.grown' {B : Nat} {w w' w'' : World} (h : Below B w w') (hB : B ≤ w'.heap.size) {p : Nat} (hg : w'.grownBy w'' (some p)) (hp : B ≤ p) : Below B w w'' :=
  ⟨hg.os.trans h.os, hg.tape.trans h.tape, hg.output.trans h.output, Nat.le_trans h.size hg.size, fun k hk => (hg.block k (by omega) (by simp; omega)).trans (h.block k hk)⟩
theorem Below.weak {B B' : Nat} {w w' : World} (h : Below B w w') (hB : B' ≤ B) : Below B' w w' := ⟨h.os, h.tape, h.output, h.size, fun k hk => h.block k (by omega)⟩
theorem Below.step {B : Nat} {w w' w'' : World} (h : Below B w w') (h' : Below w'.heap.size w' w'') (hB : B ≤ w.heap.size) : Below B w w'' :=
  ⟨h'.os.trans h.os, h'.tape.trans h.tape, h'.output.trans h.output, Nat.le_trans h.size h'.size, fun k hk => (h'.block k (by have := h.size; omega)).trans (h.block k hk)⟩

/-! ### The order of n distinct keys -/
/-- σ lists the places 0 .. n-1 by ascending keys. -/
structure Ord (n : Nat) (key : Nat → Int) (σ : Nat → Nat) : Prop where
  lt : ∀ q, q < n → σ q < n
  mono : ∀ q q', q < q' → q' < n → key (σ q) < key (σ q')
  onto : ∀ i, i < n → ∃ q, q < n ∧ σ q = i

theorem Ord.inj {n : Nat} {key : Nat → Int} {σ : Nat → Nat} (h : Ord n key σ) {q q' : Nat} (hq : q < n) (hq' : q' < n) (e : σ q = σ q') : q = q' := by
  rcases Nat.lt_trichotomy q q' with hl | hl | hl
  · have := h.mono q q' hl hq'; rw [e] at this; omega
  · exact hl
  · have := h.mono q' q hl hq; rw [e] at this; omega

theorem Ord.unique {n : Nat} {key : Nat → Int} {σ τ : Nat → Nat} (h : Ord n key σ) (h' : Ord n key τ) : ∀ q, q < n → σ q = τ q := by
  have half : ∀ {σ τ : Nat → Nat}, Ord n key σ → Ord n key τ → ∀ q, q < n → (∀ p, p < q → σ p = τ p) → ¬ key (σ q) < key (τ q) := by
    intro σ τ hs ht q hq ih hlt
    obtain ⟨p, hp, e⟩ := ht.onto (σ q) (hs.lt q hq)
    have hpq : p < q := by
      rcases Nat.lt_trichotomy p q with hl | hl | hl
      · exact hl
      · subst hl; rw [e] at hlt; omega
      · have := ht.mono q p hl hp; rw [e] at this; omega
    have := hs.inj (by omega) hq ((ih p hpq).trans e)
    omega
  intro q
  induction q using Nat.strongRecOn with
  | ind q ih =>
    intro hq
    have ih' : ∀ p, p < q → σ p = τ p := fun p hp => ih p hp (by omega)
    have a := half h h' q hq ih'
    have b := half h' h q hq (fun p hp => (ih' p hp).symm)
    obtain ⟨p, hp, e⟩ := h'.onto (σ q) (h.lt q hq)
    rcases Nat.lt_trichotomy p q with hl | hl | hl
    · have := h'.mono p q hl hq; rw [e] at this; omega
    · subst hl; exact e.symm
    · have := h'.mono q p hl hp; rw [e] at this; omega
end Go.Proofs.Qxb6605873a
