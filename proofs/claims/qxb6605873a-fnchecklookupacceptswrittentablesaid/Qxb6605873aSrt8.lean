/-
  PLAIN: the steps of pdqsort's loop, said as relations on arrays of integers.
-/
import Derived.Test.Qxb6605873aSrt4
namespace Go.Proofs.Qxb6605873a
open Go.Sort

theorem lt_false (x y : Int) : ltInt x y = false ↔ y ≤ x := by simp [ltInt]
theorem lt_true (x y : Int) : ltInt x y = true ↔ x < y := by simp [ltInt]

/-- Nothing of the part is less than what lies ahead of it. -/
def Ahd (a b : Nat) (d : Array Int) : Prop := Go.Sort.Below ltInt a b d

/-- WHAT IS LEFT TO DO: sort the part [a1, b1) of dk, and the whole [a, b) is sorted. -/
structure Rest (a b : Nat) (d : Array Int) (a1 b1 : Nat) (dk : Array Int) : Prop where
  h1 : a ≤ a1
  h2 : a1 ≤ b1
  h3 : b1 ≤ b
  h4 : b ≤ d.size
  perm : PermIn a b d dk
  ahd : Ahd a1 b1 dk
  fin : ∀ d', PermIn a1 b1 dk d' → SortedIn ltInt a1 b1 d' → SortedIn ltInt a b d'

theorem Ahd.perm {a b : Nat} {d d' : Array Int} (h : Ahd a b d) (hb : b ≤ d.size) (hp : PermIn a b d d') : Ahd a b d' := by
  rcases h with h | h
  · exact Or.inl h
  · by_cases h0 : a = 0
    · exact Or.inl h0
    · right
      have e : d'[a - 1]! = d[a - 1]! := hp.2.1 _ (Or.inl (by omega))
      rw [e]
      exact permIn_all d d' a b (fun x => ltInt x d[a - 1]! = false) hb hp h

section
variable {a b : Nat} {d : Array Int} {a1 b1 : Nat} {dk : Array Int}
theorem Rest.size (h : Rest a b d a1 b1 dk) : dk.size = d.size := h.perm.1
theorem Rest.start {a b : Nat} {d : Array Int} (hab : a ≤ b) (hb : b ≤ d.size) (h : Ahd a b d) : Rest a b d a b d := ⟨Nat.le_refl _, hab, Nat.le_refl _, hb, permIn_refl _ _ _, h, fun _ _ hs => hs⟩
/-- A permutation of the part. -/
theorem Rest.shuf (h : Rest a b d a1 b1 dk) {dx : Array Int} (hp : PermIn a1 b1 dk dx) : Rest a b d a1 b1 dx :=
  ⟨h.h1, h.h2, h.h3, h.h4, permIn_trans _ _ _ _ _ h.perm (permIn_mono _ _ _ _ _ _ h.h1 h.h3 (by rw [h.size]; exact h.h4) hp), h.ahd.perm (by rw [h.size]; have := h.h3; have := h.h4; omega) hp,
    fun d' hp' hs => h.fin d' (permIn_trans _ _ _ _ _ hp hp') hs⟩
/-- The part is sorted: the end. -/
theorem Rest.done (h : Rest a b d a1 b1 dk) {dx : Array Int} (hp : PermIn a1 b1 dk dx) (hs : SortedIn ltInt a1 b1 dx) : PermIn a b d dx ∧ SortedIn ltInt a b dx :=
  ⟨(h.shuf hp).perm, h.fin dx hp hs⟩

/-- Behind partitionEqual: only what is greater is left. -/
theorem Rest.equal (h : Rest a b d a1 b1 dk) {p : Int} {dx : Array Int} {mid pv : Nat} (hpe : PartEq a1 b1 p dk dx mid) (h0 : 0 < a1) (hpv : dk[pv]! = p) (hl : ltInt dk[a1 - 1]! dk[pv]! = false) : Rest a b d mid b1 dx := by
  have hs := h.size
  have := h.h3; have := h.h4; have := hpe.lo; have := hpe.hi; have := h.h1
  have ge : ∀ i, a1 ≤ i → i < b1 → ltInt dx[i]! p = false := by
    refine permIn_all dk dx a1 b1 (fun x => ltInt x p = false) (by omega) hpe.perm (fun i h1 h2 => ?_)
    rcases h.ahd with h' | h'
    · omega
    · have := h' i h1 h2
      rw [hpv] at hl
      rw [lt_false] at *
      omega
  have hm : PermIn a b dk dx := permIn_mono _ _ _ _ _ _ h.h1 h.h3 (by omega) hpe.perm
  refine ⟨by omega, by omega, h.h3, h.h4, permIn_trans _ _ _ _ _ h.perm hm, ?_, ?_⟩
  · right
    intro i h1 h2
    have e1 := hpe.right i h1 h2
    have e2 := hpe.left (mid - 1) (by omega) (by omega)
    rw [lt_true] at e1
    rw [lt_false] at *
    omega
  · intro d' hp' hs'
    have hp1 : PermIn a1 b1 dx d' := permIn_mono _ _ _ _ _ _ (by omega) (Nat.le_refl _) (by rw [hm.1]; omega) hp'
    refine h.fin d' (permIn_trans _ _ _ _ _ hpe.perm hp1) ?_
    have hleft : ∀ i, a1 ≤ i → i < mid → d'[i]! = p := fun i h1 h2 => by
      rw [hp'.2.1 i (Or.inl h2)]
      have e1 := ge i h1 (by omega)
      have e2 := hpe.left i h1 h2
      rw [lt_false] at *
      omega
    have hright : ∀ i, mid ≤ i → i < b1 → ltInt p d'[i]! = true :=
      permIn_all dx d' mid b1 (fun x => ltInt p x = true) (by rw [hm.1]; omega) hp' (fun i h1 h2 => hpe.right i h1 h2)
    intro i j h1 h2 h3
    rw [lt_false]
    rcases Nat.lt_or_ge j mid with hj | hj
    · rw [hleft i h1 (by omega), hleft j (by omega) hj]; exact Int.le_refl _
    · rcases Nat.lt_or_ge i mid with hi | hi
      · have := hright j hj h3
        rw [lt_true] at this
        rw [hleft i h1 hi]; omega
      · have := hs' i j hi h2 h3
        rw [lt_false] at this; exact this

/-- The two sides of a partition, each permuted and sorted. -/
theorem part_glue {a b mid : Nat} {d1 d' : Array Int} (hl : ∀ t, a ≤ t → t < mid → ltInt d'[t]! d1[mid]! = true) (hm : d'[mid]! = d1[mid]!) (hr : ∀ t, mid < t → t < b → ltInt d'[t]! d1[mid]! = false)
    (s1 : SortedIn ltInt a mid d') (s2 : SortedIn ltInt (mid + 1) b d') : SortedIn ltInt a b d' := by
  intro i j h1 h2 h3
  rcases Nat.lt_trichotomy j mid with hj | hj | hj
  · exact s1 i j h1 h2 hj
  · subst hj
    have := hl i h1 h2
    rw [lt_true] at this
    rw [lt_false, hm]; omega
  · have e := hr j hj h3
    rw [lt_false] at e
    rcases Nat.lt_trichotomy i mid with hi | hi | hi
    · have := hl i h1 hi
      rw [lt_true] at this
      rw [lt_false]; omega
    · subst hi; rw [lt_false, hm]; exact e
    · exact s2 i j (by omega) h2 h3

/-- The left side has been sorted: the right is left. -/
theorem Rest.left (h : Rest a b d a1 b1 dk) {d1 d2 : Array Int} {mid : Nat} (hp : Part a1 b1 dk d1 mid) (p2 : PermIn a1 mid d1 d2) (s2 : SortedIn ltInt a1 mid d2) : Rest a b d (mid + 1) b1 d2 := by
  have hs := h.size
  have hs1 : d1.size = dk.size := hp.perm.1
  have := h.h3; have := h.h4; have := hp.lo; have := hp.hi; have := h.h1
  have p21 : PermIn a1 b1 d1 d2 := permIn_mono _ _ _ _ _ _ (Nat.le_refl _) (by omega) (by omega) p2
  have p2k : PermIn a1 b1 dk d2 := permIn_trans _ _ _ _ _ hp.perm p21
  have hmid : d2[mid]! = d1[mid]! := p2.2.1 _ (Or.inr (Nat.le_refl _))
  have hleft : ∀ t, a1 ≤ t → t < mid → ltInt d2[t]! d1[mid]! = true := permIn_all d1 d2 a1 mid (fun x => ltInt x d1[mid]! = true) (by omega) p2 hp.left
  have hright : ∀ t, mid < t → t < b1 → ltInt d2[t]! d1[mid]! = false := fun t h1 h2 => by rw [p2.2.1 t (Or.inr (by omega))]; exact hp.right t h1 h2
  refine ⟨by omega, by omega, h.h3, h.h4, permIn_trans _ _ _ _ _ h.perm (permIn_mono _ _ _ _ _ _ h.h1 h.h3 (by omega) p2k), ?_, ?_⟩
  · right
    intro i h1 h2
    rw [show mid + 1 - 1 = mid by omega, hmid]
    exact hright i (by omega) h2
  · intro d' hp' hs'
    have hp1 : PermIn a1 b1 d2 d' := permIn_mono _ _ _ _ _ _ (by omega) (Nat.le_refl _) (by rw [p21.1]; omega) hp'
    refine h.fin d' (permIn_trans _ _ _ _ _ p2k hp1) (part_glue (d1 := d1) (mid := mid) ?_ ?_ ?_ ?_ hs')
    · intro t h1 h2; rw [hp'.2.1 t (Or.inl (by omega))]; exact hleft t h1 h2
    · rw [hp'.2.1 mid (Or.inl (by omega)), hmid]
    · intro t h1 h2
      exact permIn_all d2 d' (mid + 1) b1 (fun x => ltInt x d1[mid]! = false) (by rw [p21.1]; omega) hp' (fun i h1 h2 => hright i (by omega) h2) t (by omega) h2
    · intro i j h1 h2 h3
      rw [hp'.2.1 i (Or.inl (by omega)), hp'.2.1 j (Or.inl (by omega))]; exact s2 i j h1 h2 h3

/-- The right side has been sorted: the left is left. -/
theorem Rest.right (h : Rest a b d a1 b1 dk) {d1 d2 : Array Int} {mid : Nat} (hp : Part a1 b1 dk d1 mid) (p2 : PermIn (mid + 1) b1 d1 d2) (s2 : SortedIn ltInt (mid + 1) b1 d2) : Rest a b d a1 mid d2 := by
  have hs := h.size
  have hs1 : d1.size = dk.size := hp.perm.1
  have := h.h3; have := h.h4; have := hp.lo; have := hp.hi; have := h.h1
  have p21 : PermIn a1 b1 d1 d2 := permIn_mono _ _ _ _ _ _ (by omega) (Nat.le_refl _) (by omega) p2
  have p2k : PermIn a1 b1 dk d2 := permIn_trans _ _ _ _ _ hp.perm p21
  have hmid : d2[mid]! = d1[mid]! := p2.2.1 _ (Or.inl (by omega))
  have hleft : ∀ t, a1 ≤ t → t < mid → ltInt d2[t]! d1[mid]! = true := fun t h1 h2 => by rw [p2.2.1 t (Or.inl (by omega))]; exact hp.left t h1 h2
  have hright : ∀ t, mid < t → t < b1 → ltInt d2[t]! d1[mid]! = false := fun t h1 h2 =>
    permIn_all d1 d2 (mid + 1) b1 (fun x => ltInt x d1[mid]! = false) (by omega) p2 (fun i h1 h2 => hp.right i (by omega) h2) t (by omega) h2
  refine ⟨by omega, by omega, by omega, h.h4, permIn_trans _ _ _ _ _ h.perm (permIn_mono _ _ _ _ _ _ h.h1 h.h3 (by omega) p2k), ?_, ?_⟩
  · have := h.ahd.perm (by omega) p2k
    rcases this with h' | h'
    · exact Or.inl h'
    · exact Or.inr (fun i h1 h2 => h' i h1 (by omega))
  · intro d' hp' hs'
    have hp1 : PermIn a1 b1 d2 d' := permIn_mono _ _ _ _ _ _ (Nat.le_refl _) (by omega) (by rw [p21.1]; omega) hp'
    refine h.fin d' (permIn_trans _ _ _ _ _ p2k hp1) (part_glue (d1 := d1) (mid := mid) ?_ ?_ ?_ hs' ?_)
    · exact permIn_all d2 d' a1 mid (fun x => ltInt x d1[mid]! = true) (by rw [p21.1]; omega) hp' hleft
    · rw [hp'.2.1 mid (Or.inr (Nat.le_refl _)), hmid]
    · intro t h1 h2; rw [hp'.2.1 t (Or.inr (by omega))]; exact hright t h1 h2
    · intro i j h1 h2 h3
      rw [hp'.2.1 i (Or.inr (by omega)), hp'.2.1 j (Or.inr (by omega))]; exact s2 i j h1 h2 h3

theorem Rest.ahdLeft (h : Rest a b d a1 b1 dk) {d1 : Array Int} {mid : Nat} (hp : Part a1 b1 dk d1 mid) : Ahd a1 mid d1 := by
  have hs := h.size
  have := h.h3; have := h.h4; have := hp.hi
  rcases h.ahd.perm (by omega) hp.perm with h' | h'
  · exact Or.inl h'
  · exact Or.inr (fun i h1 h2 => h' i h1 (by omega))
theorem Part.ahdRight {d1 : Array Int} {mid : Nat} (hp : Part a1 b1 dk d1 mid) : Ahd (mid + 1) b1 d1 :=
  Or.inr (fun i h1 h2 => by rw [show mid + 1 - 1 = mid by omega]; exact hp.right i (by omega) h2)
end
end Go.Proofs.Qxb6605873a
