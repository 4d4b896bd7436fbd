/-
  The walks of toPeer (12), capAdd (19), peerBytes (11).
-/
import Derived.Test.Qxb6605895aZZ
namespace Go.Proofs.Qxb6605895a
open Go.RowKit
set_option linter.unusedSimpArgs false

theorem Try.size26 : (Try.prog.info? 26).map (·.size) = some 20 := by kernel_rfl
theorem peerL_id (xs : List Int) (a z : ByteArray) (j : Nat) (v : Value) (h : (idL xs)[j]? = some v) : (peerA xs a z)[j]? = some v := by
  have hl := (List.getElem?_eq_some_iff.1 h).1
  rw [peerA, List.getElem?_toArray, peerL, List.getElem?_append_left hl]; exact h
theorem peerA_20 (xs : List Int) (a z : ByteArray) (h : xs.length = 20) : (peerA xs a z)[20]? = some (.string a) := by
  have : (idL xs).length = 20 := by rw [idL_length, h]
  rw [peerA, List.getElem?_toArray, peerL, List.getElem?_append_right (by omega), this]; rfl
theorem peerA_21 (xs : List Int) (a z : ByteArray) (h : xs.length = 20) : (peerA xs a z)[21]? = some (.string z) := by
  have : (idL xs).length = 20 := by rw [idL_length, h]
  rw [peerA, List.getElem?_toArray, peerL, List.getElem?_append_right (by omega), this]; rfl
theorem peerA_one (xs : List Int) (a z : ByteArray) : (peerA xs a z).all (·.oneCell') = true := by
  rw [Array.all_eq_true_iff_forall_mem]
  intro v hv
  simp only [peerA, peerL, List.mem_toArray, List.mem_append, List.mem_cons, List.not_mem_nil, or_false] at hv
  rcases hv with hv | rfl | rfl
  · exact idL_one xs v hv
  · rfl
  · rfl

/-- A peer's cells lie in block b from its head on. -/
def PeerAt (w : World) (b : Nat) (xs : List Int) (a z : ByteArray) : Prop :=
  w.rangeAt b 0 (idL xs) ∧ w.cell? ⟨b, 20, none⟩ = some (.string a) ∧ w.cell? ⟨b, 21, none⟩ = some (.string z)

theorem peerAt_row {w : World} {b : Nat} {t : TypeId} {xs : List Int} {a z : ByteArray} (h : xs.length = 20) (hg : w.heap[b]? = some (.cells (peerA xs a z) t (0, 0))) : PeerAt w b xs a z := by
  refine ⟨fun j v hj => ?_, ?_, ?_⟩
  · rw [Nat.zero_add, cell_of_row _ _ _ _ _ _ hg]; exact peerL_id xs a z j v hj
  · rw [cell_of_row _ _ _ _ _ _ hg]; exact peerA_20 xs a z h
  · rw [cell_of_row _ _ _ _ _ _ hg]; exact peerA_21 xs a z h

/-- A new peer's cells: zero values. -/
def zeroPeer : Array Value := #[.int .u8 0, .int .u8 0, .int .u8 0, .int .u8 0, .int .u8 0, .int .u8 0, .int .u8 0, .int .u8 0, .int .u8 0, .int .u8 0, .int .u8 0, .int .u8 0, .int .u8 0, .int .u8 0, .int .u8 0, .int .u8 0, .int .u8 0, .int .u8 0, .int .u8 0, .int .u8 0, .string ⟨#[]⟩, .string ⟨#[]⟩]
theorem zeroPeer_size : zeroPeer.size = 22 := rfl

set_option maxRecDepth 100000 in
set_option maxHeartbeats 1000000 in
theorem toPeer_any (xs : List Int) (a z : ByteArray) (w : World) (hn : xs.length = 20) :
    Calls Try.prog 12 #[.agg (peerA xs a z)] w fun e w' => e = .returned (.agg (peerA xs a z)) ∧ Below w.heap.size w w' := by
  have iX : (Try.prog.info? 26).map (·.size) = some (idL xs).length := by rw [idL_length, hn]; exact Try.size26
  have sP : (Try.prog.info? 34).map (·.size) = some (peerA xs a z).size := by rw [peerA_size _ _ _ hn]; exact Try.size34
  have Q : Hid (_ ∧ _ ∧ _) := ⟨heap_alloc2_old w (.cells (peerA xs a z) 28) (.cells zeroPeer 34), heap_alloc2_new w (.cells (peerA xs a z) 28) (.cells zeroPeer 34), ((Below.refl _ w).alloc (Nat.le_refl _) (.cells (peerA xs a z) 28)).alloc (by simp) (.cells zeroPeer 34)⟩
  go_enter Try.func12, Try.ntmps12
  go_upto_region 1 with fail
  change Code.wp _ _ _ _ ((w.alloc (.cells (peerA xs a z) 28)).alloc (.cells zeroPeer 34))
  generalize (w.alloc (.cells (peerA xs a z) 28)).alloc (.cells zeroPeer 34) = W at *
  obtain ⟨q1, q2, qb⟩ := Q.out
  clear Q
  obtain ⟨p1, p2, p3⟩ := peerAt_row hn q1
  have HB : Hid (Below w.heap.size w W) := qb
  have H2 : Hid (W.heap[w.heap.size + 1]? = some (.cells zeroPeer 34 (0, 0))) := q2
  have HP : Hid (W.rangeAt w.heap.size 0 (idL xs)) := p1
  clear q1 q2 qb p1
  go_wp2_with (first | (refine wpList_load_mid_w (by rfl) 26 (.tmp 3) rfl w.heap.size 0 rfl (idL xs) _ HP.out Try.underlying26 rfl iX ?_) | (refine wpList_build3 (by rfl) 34 0 1 2 (.tmp 4) (.tmp 6) (.tmp 8) rfl (.agg (idA xs)) (.string a) (.string z) (.agg (peerA xs a z)) rfl rfl rfl (build34 xs hn a z _) ?_) | (refine wpList_store_row rfl 34 (.tmp 2) (.tmp 9) rfl (w.heap.size + 1) 34 zeroPeer (peerA xs a z) rfl rfl H2.out (by rw [peerA_size _ _ _ hn, zeroPeer_size]) sP (peerA_one _ _ _) ?_))
  refine bodyPost_ret (v := .agg (peerA xs a z)) (results_cell_row rfl _ _ (w.heap.size + 1) 34 (peerA xs a z) (0, 0) _ rfl (setRow_heap _ _ _ _ _ _ H2.out) Try.underlying34 rfl sP) rfl ⟨rfl, below_setRow HB.out (by omega) _⟩

/-- min(n + k, 1048577). -/
def capA (n k : Int) : Int := if 1048576 - n < k then 1048577 else n + k

set_option maxHeartbeats 400000 in
theorem capAdd_any (n k : Int) (w : World) (h0 : 0 ≤ n) (h1 : n ≤ 1048577) (k0 : 0 ≤ k) (k1 : k ≤ 9223372036854775807) :
    Calls Try.prog 19 #[.int .i64 n, .int .i64 k] w fun e w' => e = .returned (.int .i64 (capA n k)) ∧ w = w' := by
  by_cases h : 1048576 - n < k
  · have HC : Hid (capA n k = 1048577) := by show capA n k = _; unfold capA; rw [if_pos h]
    go_enter Try.func19, Try.ntmps19
    go_wp2
    go_ret
    exact ⟨by rw [HC.out]; rfl, rfl⟩
  · have HC : Hid (capA n k = n + k) := by show capA n k = _; unfold capA; rw [if_neg h]
    go_enter Try.func19, Try.ntmps19
    go_wp2
    go_ret
    exact ⟨by rw [HC.out]; rfl, rfl⟩
end Go.Proofs.Qxb6605895a
