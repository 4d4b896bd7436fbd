/-
  slices.Sort at uint64 (27), and what it makes of distinct keys.
-/
import Derived.Test.Qxb6605873aSrt9
import Derived.Test.Qxb6605873aLk1
namespace Go.Proofs.Qxb6605873a
open Go.RowKit Go.Sort
set_option linter.unusedSimpArgs false
set_option linter.unusedVariables false

theorem bitLen_small (x : Nat) (h : x ≤ 1048576) : Lib.bitLen x ≤ 1048576 := by
  by_cases h0 : x = 0
  · subst h0; decide
  · have := bitLen_pow x h0 (by omega)
    have h2 : Lib.bitLen x < 2 ^ Lib.bitLen x := Nat.lt_two_pow_self
    have : Lib.bitLen x ≤ 2097152 := by omega
    by_cases h3 : Lib.bitLen x ≤ 1048576
    · exact h3
    · have h4 : 2 ^ 22 ≤ 2 ^ Lib.bitLen x := Nat.pow_le_pow_right (by decide) (by omega)
      omega

theorem sort_u (g o n cap : Nat) (d : Array Int) (w : World) (h : RowU w g o n w d) (hn : n ≤ 1048576) :
    Calls Try.prog 27 #[.slice (some ⟨g, o, none⟩) n cap] w fun e w' => e = .returned (.tuple #[]) ∧ ∃ d', RowU w g o n w' d' ∧ PermIn 0 n d d' ∧ SortedIn ltInt 0 n d' := by
  have H := hidU h
  have hb := bitLen_small n hn
  clear h
  go_enter Try.func27, Try.ntmps27
  go_wp2_with fail
  refine (bitsLen_u n w hn).mono ?_
  rintro e w' ⟨rfl, rfl⟩
  go_wp2_with fail
  refine (pdq_u (n + 1) g o n cap 0 n (Lib.bitLen n) d w (by omega) H.out (by omega) (Nat.le_refl _) hn hb (Or.inl rfl)).mono ?_
  rintro e w' ⟨rfl, d', h1, h2, h3⟩
  go_wp2_with fail
  go_end0
  exact ⟨rfl, d', h1, h2, h3⟩

/-- What a sorted row of the keys says of the order. -/
theorem sorted_ord (n : Nat) (pos : Nat → Int) (d d' : Array Int) (hn : n ≤ 1048576) (hd : d.size = n) (hp : ∀ i, i < n → 0 ≤ pos i ∧ pos i < 4294967296) (hk : ∀ i, i < n → d[i]! = keyOf pos i) (h2 : PermIn 0 n d d') (h3 : SortedIn ltInt 0 n d') :
    ∃ σ, Ord n (keyOf pos) σ ∧ ∀ q, q < n → d'[q]! = keyOf pos (σ q) := by
  obtain ⟨hs, hout, hperm⟩ := h2
  have e1 : d.extract 0 n = d := by rw [← hd]; simp
  have e2 : d'.extract 0 n = d' := by rw [← hd, ← hs]; simp
  rw [e1, e2] at hperm
  have hs' : d'.size = n := hs.trans hd
  have inj : ∀ i j, i < n → j < n → keyOf pos i = keyOf pos j → i = j := fun i j hi hj e => by unfold keyOf at e; omega
  have get : ∀ (x : Array Int) (i : Nat) (h : i < x.size), x[i]! = x[i] := fun x i h => getElem!_pos x i h
  have mem : ∀ q, q < n → ∃ i, i < n ∧ d'[q]! = keyOf pos i := fun q hq => by
    have h1 : d'[q]! ∈ d'.toList := by rw [get d' q (by omega)]; simp
    have h2 := hperm.subset h1
    obtain ⟨i, hi, e⟩ := List.getElem_of_mem h2
    have hi' : i < n := by simpa [hd] using hi
    refine ⟨i, hi', ?_⟩
    rw [← hk i hi', get d i (by omega), ← e]; simp
  have back : ∀ i, i < n → ∃ q, q < n ∧ d'[q]! = keyOf pos i := fun i hi => by
    have h1 : d[i]! ∈ d.toList := by rw [get d i (by omega)]; simp
    have h2 := hperm.symm.subset h1
    obtain ⟨q, hq, e⟩ := List.getElem_of_mem h2
    have hq' : q < n := by simpa [hs'] using hq
    refine ⟨q, hq', ?_⟩
    rw [← hk i hi, get d' q (by omega), ← e]; simp
  have nd : d.toList.Nodup := by
    refine List.pairwise_iff_getElem.2 fun i j hi hj hij e => ?_
    have hi' : i < n := by simpa [hd] using hi
    have hj' : j < n := by simpa [hd] using hj
    have := inj i j hi' hj' (by rw [← hk i hi', ← hk j hj', get d i (by omega), get d j (by omega)]; simpa using e)
    omega
  have nd' : d'.toList.Nodup := hperm.nodup_iff.2 nd
  have ne : ∀ q q', q < q' → q' < n → d'[q]! ≠ d'[q']! := fun q q' hq hq' e => by
    have := List.pairwise_iff_getElem.1 nd' q q' (by simp [hs']; omega) (by simp [hs']; omega) hq
    apply this
    rw [get d' q (by omega), get d' q' (by omega)] at e
    simpa using e
  refine ⟨fun q => if h : q < n then (mem q h).choose else 0, ⟨?_, ?_, ?_⟩, ?_⟩
  · intro q hq
    simp only [hq, dif_pos]
    exact (mem q hq).choose_spec.1
  · intro q q' hq hq'
    have hq0 : q < n := by omega
    simp only [hq0, hq', dif_pos]
    rw [← (mem q hq0).choose_spec.2, ← (mem q' hq').choose_spec.2]
    have h1 := h3 q q' (by omega) hq hq'
    have h2 := ne q q' hq hq'
    simp only [ltInt, decide_eq_false_iff_not] at h1
    omega
  · intro i hi
    obtain ⟨q, hq, e⟩ := back i hi
    refine ⟨q, hq, ?_⟩
    simp only [hq, dif_pos]
    exact inj _ _ (mem q hq).choose_spec.1 hi (by rw [← (mem q hq).choose_spec.2, e])
  · intro q hq
    simp only [hq, dif_pos]
    exact (mem q hq).choose_spec.2
end Go.Proofs.Qxb6605873a
