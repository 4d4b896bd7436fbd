/-
  What is told of the arguments of the two laws over arcs: a peer, an id, a pointer to a peer.
-/
import Derived.Test.Qxb6605895aByt
import Derived.ProofKit
import Derived.OpenShut
import Derived.Deep.Strs
namespace Go.Proofs.Qxb6605895a
open Go.ChangeShapes Go.WideShapes Go.ChangeAt Go.RowKit
section
set_option maxRecDepth 100000
variable {H : Type} {enc : TypeId × Value → H} {w : World} {base : Nat} {spare : Nat → Bool} {held : Bool}

theorem open_id {fuel : Nat} {cs : List Value} {x : DataW H × List MemPlace} (h : DataW.trod enc Try.prog w base spare held fuel 26 cs = some x) : ∃ ks : List Int, cs = idL ks ∧ ks.length = 20 ∧ Bytes ks := by
  obtain ⟨xs, m, _, _, hl, hxs, hf⟩ := DataW.trod_array Try.underlying26 h
  have h20 : cs.length = 20 := hl.trans (by kernel_rfl)
  have h5 : Try.prog.cellsOf 5 = 1 := by kernel_rfl
  have key : ∀ i, i < 20 → ∃ n : Int, cs[i]? = some (.int .u8 n) ∧ 0 ≤ n ∧ n < 256 := by
    intro i hi
    have hq := hf i hi
    rw [h5, Nat.mul_one, List.getElem?_eq_getElem (by omega)] at hq
    obtain ⟨n, hc, _, hw⟩ := DataW.trod_int Try.underlying5 hq
    refine ⟨n, ?_, ?_⟩
    · have : ((cs.drop i).take 1)[0]? = some (.int .u8 n) := by rw [hc]; rfl
      simpa using this
    · have := bounds_u8 hw; omega
  refine ⟨(List.range 20).map fun i => intOf (cs[i]?.getD undef), ?_, by simp, ?_⟩
  · apply List.ext_getElem?
    intro i
    by_cases hi : i < 20
    · obtain ⟨n, hn, _⟩ := key i hi
      simp [idL, hi, hn, intOf]
    · rw [List.getElem?_eq_none (by omega), List.getElem?_eq_none (by simp [idL]; omega)]
  · intro y hy
    obtain ⟨i, hi, rfl⟩ := List.mem_map.1 hy
    obtain ⟨n, hn, hb⟩ := key i (List.mem_range.1 hi)
    simpa [hn, intOf] using hb

theorem open_peer {fuel : Nat} {cs : List Value} {x : DataW H × List MemPlace} (h : DataW.trod enc Try.prog w base spare held fuel 28 cs = some x) :
    ∃ (xs : List Int) (a z : ByteArray), cs = peerL xs a z ∧ xs.length = 20 ∧ Bytes xs ∧ a.size ≤ maxLen ∧ z.size ≤ maxLen := by
  obtain ⟨y0, y1, y2, n, _, hl, h0, h1, h2⟩ := Deep.trod_struct3 Try.underlying28 h
  have h22 : cs.length = 22 := hl.trans (by kernel_rfl)
  have c26 : Try.prog.cellsOf 26 = 20 := by kernel_rfl
  have c9 : Try.prog.cellsOf 9 = 1 := by kernel_rfl
  simp only [c26, c9] at h0 h1 h2
  obtain ⟨xs, hx, hn, hb⟩ := open_id h0
  obtain ⟨a, ha, _, hA⟩ := DataW.trod_string Try.underlying9 h1
  obtain ⟨z, hz, _, hZ⟩ := DataW.trod_string Try.underlying9 h2
  refine ⟨xs, a, z, ?_, hn, hb, hA, hZ⟩
  rw [peerL, ← hx]
  have e1 : cs = cs.take 20 ++ ((cs.drop 20).take 1 ++ (cs.drop 21).take 1) := by
    apply List.ext_getElem?
    intro i
    by_cases h20 : i < 20
    · rw [List.getElem?_append_left (by simp; omega)]; simp [h20]
    · rw [List.getElem?_append_right (by simp; omega)]
      have : (cs.take 20).length = 20 := by simp; omega
      rw [this]
      by_cases e : i = 20
      · subst e; rw [List.getElem?_append_left (by simp; omega)]; simp
      · rw [List.getElem?_append_right (by simp; omega)]
        have : ((cs.drop 20).take 1).length = 1 := by simp; omega
        rw [this]
        by_cases e2 : i = 21
        · subst e2; simp
        · rw [List.getElem?_eq_none (by omega), List.getElem?_eq_none (by simp; omega)]
  rw [ha, hz] at e1
  simpa using e1

theorem open_peer_arg {r : Reach} {b0 : Nat} {v : Value} {d : DataW H} {p : List MemPlace} (hv : Value.okWide Try.prog w r b0 28 v) (h : DataW.Trod enc Try.prog w base spare held 28 v d p) :
    ∃ (xs : List Int) (a z : ByteArray), v = .agg (peerA xs a z) ∧ xs.length = 20 ∧ Bytes xs ∧ a.size ≤ maxLen ∧ z.size ≤ maxLen := by
  obtain ⟨cs, rfl, _⟩ := okWide_struct Try.underlying28 hv
  obtain ⟨fuel, hf⟩ := h
  obtain ⟨xs, a, z, hc, r1⟩ := open_peer hf
  refine ⟨xs, a, z, ?_, r1⟩
  simp only [Value.cells] at hc
  rw [peerA, ← hc]

theorem open_id_arg {r : Reach} {b0 : Nat} {v : Value} {d : DataW H} {p : List MemPlace} (hv : Value.okWide Try.prog w r b0 26 v) (h : DataW.Trod enc Try.prog w base spare held 26 v d p) :
    ∃ ks : List Int, v = .agg (idA ks) ∧ ks.length = 20 ∧ Bytes ks := by
  have hc : ∃ cs, v = .agg cs := by
    simp only [Value.okWide, Try.underlying26] at hv
    obtain ⟨cs, h1, _⟩ := hv
    exact ⟨cs, h1⟩
  obtain ⟨cs, rfl⟩ := hc
  obtain ⟨fuel, hf⟩ := h
  obtain ⟨xs, hc, r1⟩ := open_id hf
  refine ⟨xs, ?_, r1⟩
  simp only [Value.cells] at hc
  rw [← idL_arr, ← hc]

theorem open_ptr_arg {r : Reach} {b0 : Nat} {v : Value} {d : DataW H} {p : List MemPlace} (hv : Value.okWide Try.prog w r b0 29 v) (h : DataW.Trod enc Try.prog w base spare held 29 v d p) :
    v = .pointer none ∨ ∃ (b off : Nat) (xs : List Int) (a z : ByteArray), v = .pointer (some ⟨b, off, none⟩) ∧ w.rangeAt b off (peerL xs a z) ∧ xs.length = 20 ∧ Bytes xs ∧ a.size ≤ maxLen ∧ z.size ≤ maxLen := by
  have c28 : Try.prog.cellsOf 28 = 22 := by kernel_rfl
  rcases ChangeShapes.open_ptr Try.underlying29 (by rw [c28]; omega) hv h with ⟨rfl, _⟩ | ⟨b, off, cs, y, fuel, rfl, _, _, hlen, hcell, hf⟩
  · exact .inl rfl
  · right
    obtain ⟨xs, a, z, hc, r1⟩ := open_peer hf
    refine ⟨b, off, xs, a, z, rfl, ?_, r1⟩
    intro j v hj
    rw [← hc] at hj
    rw [hcell j (by have := (List.getElem?_eq_some_iff.1 hj).1; omega)]; exact hj
end
end Go.Proofs.Qxb6605895a
