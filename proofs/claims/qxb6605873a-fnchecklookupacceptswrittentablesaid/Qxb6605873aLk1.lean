/-
  PLAIN: the merge sort of places by keys.
-/
import Derived.Test.Qxb6605873aLk0
namespace Go.Proofs.Qxb6605873a
open Go.RowKit
set_option linter.unusedVariables false

/-- On the places lo .. hi-1 f lists those same places by ascending keys. -/
structure Blk (key : Nat → Int) (lo hi : Nat) (f : Nat → Nat) : Prop where
  rng : ∀ t, lo ≤ t → t < hi → lo ≤ f t ∧ f t < hi
  mono : ∀ t t', lo ≤ t → t < t' → t' < hi → key (f t) < key (f t')
  onto : ∀ i, lo ≤ i → i < hi → ∃ t, lo ≤ t ∧ t < hi ∧ f t = i

theorem Blk.congr {key : Nat → Int} {lo hi : Nat} {f f' : Nat → Nat} (h : Blk key lo hi f) (e : ∀ t, lo ≤ t → t < hi → f' t = f t) : Blk key lo hi f' :=
  ⟨fun t a b => by rw [e t a b]; exact h.rng t a b, fun t t' a b c => by rw [e t a (by omega), e t' (by omega) c]; exact h.mono t t' a b c,
   fun i a b => by obtain ⟨t, h1, h2, h3⟩ := h.onto i a b; exact ⟨t, h1, h2, (e t h1 h2).trans h3⟩⟩
theorem Blk.empty {key : Nat → Int} {lo hi : Nat} {f : Nat → Nat} (h : hi ≤ lo) : Blk key lo hi f := ⟨fun t a b => by omega, fun t t' a b c => by omega, fun i a b => by omega⟩
theorem Blk.one {key : Nat → Int} {lo hi : Nat} {f : Nat → Nat} (h : hi ≤ lo + 1) (e : ∀ t, lo ≤ t → t < hi → f t = t) : Blk key lo hi f :=
  ⟨fun t a b => by rw [e t a b]; omega, fun t t' a b c => by omega, fun i a b => ⟨i, a, b, e i a b⟩⟩
theorem Blk.ord {key : Nat → Int} {n : Nat} {f : Nat → Nat} (h : Blk key 0 n f) : Ord n key f :=
  ⟨fun q hq => (h.rng q (by omega) hq).2, fun q q' a b => h.mono q q' (by omega) a b, fun i hi => by obtain ⟨t, _, h2, h3⟩ := h.onto i (by omega) hi; exact ⟨t, h2, h3⟩⟩

/-- The merge of f's lo .. mid-1 and mid .. hi-1 into g, as far as a and b; g's next free place is a + b - mid. g0: what g was. -/
structure Mg (key : Nat → Int) (lo mid hi a b : Nat) (f g g0 : Nat → Nat) : Prop where
  h1 : lo ≤ a
  h2 : a ≤ mid
  h3 : mid ≤ b
  h4 : b ≤ hi
  L : Blk key lo mid f
  R : Blk key mid hi f
  sorted : ∀ t t', lo ≤ t → t < t' → t' < a + b - mid → key (g t) < key (g t')
  ltA : ∀ t, lo ≤ t → t < a + b - mid → a < mid → key (g t) < key (f a)
  ltB : ∀ t, lo ≤ t → t < a + b - mid → b < hi → key (g t) < key (f b)
  src : ∀ t, lo ≤ t → t < a + b - mid → ∃ s, ((lo ≤ s ∧ s < a) ∨ (mid ≤ s ∧ s < b)) ∧ g t = f s
  dst : ∀ s, ((lo ≤ s ∧ s < a) ∨ (mid ≤ s ∧ s < b)) → ∃ t, lo ≤ t ∧ t < a + b - mid ∧ g t = f s
  keep : ∀ t, t < lo → g t = g0 t

variable {key : Nat → Int} {lo mid hi a b : Nat} {f g g0 : Nat → Nat}

theorem Mg.start (h1 : lo ≤ mid) (h2 : mid ≤ hi) (L : Blk key lo mid f) (R : Blk key mid hi f) : Mg key lo mid hi lo mid f g g :=
  ⟨Nat.le_refl _, h1, Nat.le_refl _, h2, L, R, fun t t' a b c => by omega, fun t a b _ => by omega, fun t a b _ => by omega, fun t a b => by omega, fun s h => by omega, fun _ _ => rfl⟩

theorem Mg.takeA (M : Mg key lo mid hi a b f g g0) (ha : a < mid) (hb : b < hi → key (f a) < key (f b)) : Mg key lo mid hi (a + 1) b f (upd g (a + b - mid) (f a)) g0 := by
  have h1 := M.h1; have h2 := M.h2; have h3 := M.h3; have h4 := M.h4
  have ek : a + 1 + b - mid = (a + b - mid) + 1 := by omega
  have off : ∀ t, t < a + b - mid → upd g (a + b - mid) (f a) t = g t := fun t ht => upd_off _ _ _ (by omega)
  have same := upd_same g (a + b - mid) (f a)
  refine ⟨by omega, by omega, h3, h4, M.L, M.R, ?_, ?_, ?_, ?_, ?_, ?_⟩
  · intro t t' x y z
    by_cases e : t' = a + b - mid
    · subst e; rw [same, off t (by omega)]; exact M.ltA t x y ha
    · rw [off t (by omega), off t' (by omega)]; exact M.sorted t t' x y (by omega)
  · intro t x y z
    by_cases e : t = a + b - mid
    · subst e; rw [same]; exact M.L.mono a (a + 1) h1 (by omega) z
    · rw [off t (by omega)]
      exact Int.lt_trans (M.ltA t x (by omega) ha) (M.L.mono a (a + 1) h1 (by omega) z)
  · intro t x y z
    by_cases e : t = a + b - mid
    · subst e; rw [same]; exact hb z
    · rw [off t (by omega)]; exact M.ltB t x (by omega) z
  · intro t x y
    by_cases e : t = a + b - mid
    · subst e; exact ⟨a, Or.inl ⟨h1, by omega⟩, same⟩
    · obtain ⟨s, hs, e'⟩ := M.src t x (by omega)
      exact ⟨s, by omega, by rw [off t (by omega)]; exact e'⟩
  · intro s hs
    by_cases e : s = a
    · subst e; exact ⟨s + b - mid, by omega, by omega, same⟩
    · obtain ⟨t, x, y, e'⟩ := M.dst s (by omega)
      exact ⟨t, x, by omega, by rw [off t y]; exact e'⟩
  · intro t ht; rw [off t (by omega)]; exact M.keep t ht

theorem Mg.takeB (M : Mg key lo mid hi a b f g g0) (hb : b < hi) (ha : a < mid → key (f b) < key (f a)) : Mg key lo mid hi a (b + 1) f (upd g (a + b - mid) (f b)) g0 := by
  have h1 := M.h1; have h2 := M.h2; have h3 := M.h3; have h4 := M.h4
  have off : ∀ t, t < a + b - mid → upd g (a + b - mid) (f b) t = g t := fun t ht => upd_off _ _ _ (by omega)
  have same := upd_same g (a + b - mid) (f b)
  refine ⟨h1, h2, by omega, by omega, M.L, M.R, ?_, ?_, ?_, ?_, ?_, ?_⟩
  · intro t t' x y z
    by_cases e : t' = a + b - mid
    · subst e; rw [same, off t (by omega)]; exact M.ltB t x y hb
    · rw [off t (by omega), off t' (by omega)]; exact M.sorted t t' x y (by omega)
  · intro t x y z
    by_cases e : t = a + b - mid
    · subst e; rw [same]; exact ha z
    · rw [off t (by omega)]; exact M.ltA t x (by omega) z
  · intro t x y z
    by_cases e : t = a + b - mid
    · subst e; rw [same]; exact M.R.mono b (b + 1) h3 (by omega) z
    · rw [off t (by omega)]
      exact Int.lt_trans (M.ltB t x (by omega) hb) (M.R.mono b (b + 1) h3 (by omega) z)
  · intro t x y
    by_cases e : t = a + b - mid
    · subst e; exact ⟨b, Or.inr ⟨h3, by omega⟩, same⟩
    · obtain ⟨s, hs, e'⟩ := M.src t x (by omega)
      exact ⟨s, by omega, by rw [off t (by omega)]; exact e'⟩
  · intro s hs
    by_cases e : s = b
    · subst e; exact ⟨a + s - mid, by omega, by omega, same⟩
    · obtain ⟨t, x, y, e'⟩ := M.dst s (by omega)
      exact ⟨t, x, by omega, by rw [off t y]; exact e'⟩
  · intro t ht; rw [off t (by omega)]; exact M.keep t ht

theorem Mg.done (M : Mg key lo mid hi mid hi f g g0) : Blk key lo hi g := by
  have h1 := M.h1; have h4 := M.h3
  have ek : mid + hi - mid = hi := by omega
  refine ⟨fun t x y => ?_, fun t t' x y z => M.sorted t t' x y (by omega), fun i x y => ?_⟩
  · obtain ⟨s, hs, e⟩ := M.src t x (by omega)
    rw [e]
    rcases hs with hs | hs
    · have := M.L.rng s hs.1 hs.2; omega
    · have := M.R.rng s hs.1 hs.2; omega
  · by_cases hm : i < mid
    · obtain ⟨s, p, q, e⟩ := M.L.onto i x hm
      obtain ⟨t, u, v, e'⟩ := M.dst s (Or.inl ⟨p, q⟩)
      exact ⟨t, u, by omega, e'.trans e⟩
    · obtain ⟨s, p, q, e⟩ := M.R.onto i (by omega) y
      obtain ⟨t, u, v, e'⟩ := M.dst s (Or.inr ⟨p, q⟩)
      exact ⟨t, u, by omega, e'.trans e⟩

/-- Keys: the position first, the place second. -/
def keyOf (pos : Nat → Int) (i : Nat) : Int := pos i * 4294967296 + i

theorem keyOf_lt {pos : Nat → Int} {i j : Nat} (hj : i < 4294967296) (h : pos i < pos j) : keyOf pos i < keyOf pos j := by unfold keyOf; omega
theorem keyOf_le {pos : Nat → Int} {i j : Nat} (h : pos i ≤ pos j) (hij : i < j) : keyOf pos i < keyOf pos j := by unfold keyOf; omega

theorem dvd_next {m l lo : Nat} (h1 : m ∣ l) (h2 : m ∣ lo) (h : l < lo) : l + m ≤ lo := by
  obtain ⟨x, rfl⟩ := h1
  obtain ⟨y, rfl⟩ := h2
  have : x < y := Nat.lt_of_mul_lt_mul_left h
  calc m * x + m = m * (x + 1) := by rw [Nat.mul_add, Nat.mul_one]
    _ ≤ m * y := Nat.mul_le_mul_left _ this
end Go.Proofs.Qxb6605873a
