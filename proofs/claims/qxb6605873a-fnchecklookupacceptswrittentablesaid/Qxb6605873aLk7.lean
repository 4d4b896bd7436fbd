/-
  PLAIN: two orders of the same keys agree, ranks and rows too; clones as rows.
-/
import Derived.Test.Qxb6605873aLk4
namespace Go.Proofs.Qxb6605873a
open Go.RowKit
set_option linter.unusedSimpArgs false
set_option linter.unusedVariables false

theorem Ord.rank {n : Nat} {key : Nat → Int} {σ r : Nat → Nat} (h : Ord n key σ) (hr : ∀ q, q < n → r (σ q) = q) : ∀ i, i < n → r i < n ∧ σ (r i) = i := by
  intro i hi
  obtain ⟨q, hq, e⟩ := h.onto i hi
  have := hr q hq
  rw [e] at this
  rw [this]; exact ⟨hq, e⟩

/-- The wanted rows do not hang on how the order was found. -/
theorem rows_agree {n : Nat} {pos : Nat → Int} {xor : Nat → Nat} {σ r σ' r' : Nat → Nat} (h : Ord n (keyOf pos) σ) (hr : ∀ q, q < n → r (σ q) = q) (h' : Ord n (keyOf pos) σ') (hr' : ∀ q, q < n → r' (σ' q) = q) :
    ∀ q, q < n → σ' q = σ q ∧ rowX xor r' (σ' q) = rowX xor r (σ q) := by
  intro q hq
  have e := h.unique h'
  have er : ∀ i, i < n → r' i = r i := fun i hi => by
    obtain ⟨p, hp, x⟩ := h.onto i hi
    rw [← x, hr p hp, e p hp, hr' p hp]
  refine ⟨(e q hq).symm, ?_⟩
  rw [← e q hq]
  have hs := h.lt q hq
  unfold rowX
  rw [er (σ q - xor (σ q)) (by omega)]

theorem RowF.toSrc {k : IntKind} {w : World} {g n : Nat} {f : Nat → Int} (h : RowF k w g n f) : Src k w (some ⟨g, 0, none⟩) n f :=
  ⟨by simp, fun ad ha j hj => by obtain rfl := Option.some.inj ha; rw [Addr.add_mid, Nat.zero_add]; exact h.cell j hj⟩

theorem RowF.cp (k : IntKind) (w : World) (n : Nat) (zs : List Int) (hl : n ≤ zs.length) (e : TypeId) : RowF k (w.alloc (.cells (cpK k zs n n) e)) w.heap.size n (fun j => zs[j]?.getD 0) :=
  ⟨fun t ht => by rw [cell_of_row _ _ t _ e (0, 0) (heapA _ _)]; exact cpK_get k zs n t ht hl, fun t ht => by unfold World.frozen?; rw [heapA]; simp, by rw [sizeA]; omega⟩

theorem clone_pos8 (ad : Addr) (len cap : Nat) (zs : List Int) (w : World) (hl : len ≤ zs.length) (h20 : len ≤ 1048576)
    (hc : ∀ i, i < len → w.cell? (ad.add i) = some (.int .u8 (zs[i]?.getD 0))) :
    Calls Try.prog 8 #[.slice (some ad) len cap] w fun e w' => ∃ g, e = .returned (.slice (some ⟨g, 0, none⟩) len len) ∧ RowF .u8 w' g len (fun j => zs[j]?.getD 0) ∧ Below w.heap.size w w' :=
  (clone_some ad len cap zs w hl h20 hc).mono fun e w' ⟨he, hw⟩ => ⟨_, he, hw ▸ RowF.cp .u8 w len zs hl 5, hw ▸ Below.alloc' (Below.refl _ _) (Nat.le_refl _) _⟩
theorem clone_pos32 (ad : Addr) (len cap : Nat) (zs : List Int) (w : World) (hl : len ≤ zs.length) (h20 : len ≤ 1048576)
    (hc : ∀ i, i < len → w.cell? (ad.add i) = some (.int .u32 (zs[i]?.getD 0))) :
    Calls Try.prog 15 #[.slice (some ad) len cap] w fun e w' => ∃ g, e = .returned (.slice (some ⟨g, 0, none⟩) len len) ∧ RowF .u32 w' g len (fun j => zs[j]?.getD 0) ∧ Below w.heap.size w w' :=
  (clone_some32 ad len cap zs w hl h20 hc).mono fun e w' ⟨he, hw⟩ => ⟨_, he, hw ▸ RowF.cp .u32 w len zs hl 43, hw ▸ Below.alloc' (Below.refl _ _) (Nat.le_refl _) _⟩
theorem clone_posI (ad : Addr) (len cap : Nat) (zs : List Int) (w : World) (hl : len ≤ zs.length) (h20 : len ≤ 1048576)
    (hc : ∀ i, i < len → w.cell? (ad.add i) = some (.int .i64 (zs[i]?.getD 0))) :
    Calls Try.prog 17 #[.slice (some ad) len cap] w fun e w' => ∃ g, e = .returned (.slice (some ⟨g, 0, none⟩) len len) ∧ RowF .i64 w' g len (fun j => zs[j]?.getD 0) ∧ Below w.heap.size w w' :=
  (clone_someI ad len cap zs w hl h20 hc).mono fun e w' ⟨he, hw⟩ => ⟨_, he, hw ▸ RowF.cp .i64 w len zs hl 3, hw ▸ Below.alloc' (Below.refl _ _) (Nat.le_refl _) _⟩
end Go.Proofs.Qxb6605873a
