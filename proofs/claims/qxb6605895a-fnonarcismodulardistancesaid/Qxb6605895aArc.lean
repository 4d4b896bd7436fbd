/-
  The walk of ring.InArc (21).
-/
import Derived.Test.Qxb6605895aCmp
import Derived.Test.Qxb6605895aArcLaw
import Derived.Deep.Cut
namespace Go.Proofs.Qxb6605895a
open Go.RowKit

/-- Does k lie on the arc from f, exclusive, to t, inclusive? -/
def inArc (k f t : Nat) : Bool := if f < t then decide (f < k) && decide (k ≤ t) else if t < f then decide (f < k) || decide (k ≤ t) else true

theorem cmpV_lt {a b : Nat} (h : a < b) : cmpV a b = -1 := by unfold cmpV; rw [if_pos h]
theorem cmpV_gt {a b : Nat} (h : b < a) : cmpV a b = 1 := by unfold cmpV; rw [if_neg (by omega), if_pos h]
theorem cmpV_eq {a b : Nat} (h : a = b) : cmpV a b = 0 := by unfold cmpV; rw [if_neg (by omega), if_neg (by omega)]

theorem tri (a b : Nat) : (a < b ∧ cmpV a b = -1) ∨ (a = b ∧ cmpV a b = 0) ∨ (b < a ∧ cmpV a b = 1) := by
  rcases Nat.lt_trichotomy a b with h | h | h
  · exact .inl ⟨h, cmpV_lt h⟩
  · exact .inr (.inl ⟨h, cmpV_eq h⟩)
  · exact .inr (.inr ⟨h, cmpV_gt h⟩)

theorem three_new (w : World) (A B C : Obj) : (((w.alloc A).alloc B).alloc C).heap[w.heap.size]? = some A ∧ (((w.alloc A).alloc B).alloc C).heap[w.heap.size + 1]? = some B ∧ (((w.alloc A).alloc B).alloc C).heap[w.heap.size + 1 + 1]? = some C ∧ (((w.alloc A).alloc B).alloc C).heap.size = w.heap.size + 3 := by
  refine ⟨?_, ?_, ?_, by simp⟩
  · rw [Below.heap_alloc _ _ _ (by simp; omega), heap_alloc2_old]
  · rw [Below.heap_alloc _ _ _ (by simp), heap_alloc2_new]
  · have := heap_alloc_new ((w.alloc A).alloc B) C
    simpa using this

set_option maxRecDepth 100000 in
set_option maxHeartbeats 1000000 in
theorem inArc_any (ks fs ts : List Int) (w : World) (hkn : ks.length = 20) (hfn : fs.length = 20) (htn : ts.length = 20) (bk : Bytes ks) (bf : Bytes fs) (bt : Bytes ts) :
    Calls Try.prog 21 #[.agg (idA ks), .agg (idA fs), .agg (idA ts)] w fun e w' => e = .returned (.bool (inArc (val ks) (val fs) (val ts))) ∧ Below w.heap.size w w' := by
  have sK : (Try.prog.info? 32).map (·.size) = some (idA ks).size := by rw [idA_size, hkn]; exact Try.size32
  have sF : (Try.prog.info? 32).map (·.size) = some (idA fs).size := by rw [idA_size, hfn]; exact Try.size32
  have sT : (Try.prog.info? 32).map (·.size) = some (idA ts).size := by rw [idA_size, htn]; exact Try.size32
  obtain ⟨q1, q2, q3, q4⟩ := three_new w (.cells (idA ks) 32) (.cells (idA fs) 32) (.cells (idA ts) 32)
  have qb : Below w.heap.size w (((w.alloc (.cells (idA ks) 32)).alloc (.cells (idA fs) 32)).alloc (.cells (idA ts) 32)) := (((Below.refl _ _).alloc (Nat.le_refl _) _).alloc (by simp) _).alloc (by simp; omega) _
  have Q : Hid (_ ∧ _ ∧ _ ∧ _ ∧ _) := ⟨q1, q2, q3, q4, qb⟩
  clear q1 q2 q3 q4 qb
  go_enter Try.func21, Try.ntmps21
  go_upto_region 1 with fail
  generalize (((w.alloc (.cells (idA ks) 32)).alloc (.cells (idA fs) 32)).alloc (.cells (idA ts) 32)) = W0 at *
  obtain ⟨q1, q2, q3, q4, qb⟩ := Q.out
  clear Q
  have HK : Hid (∀ Wx, Below W0.heap.size W0 Wx → Wx.heap[w.heap.size]? = some (.cells (idA ks) 32 (0, 0))) := fun Wx h => by rw [h.block _ (by omega)]; exact q1
  have HF : Hid (∀ Wx, Below W0.heap.size W0 Wx → Wx.heap[w.heap.size + 1]? = some (.cells (idA fs) 32 (0, 0))) := fun Wx h => by rw [h.block _ (by omega)]; exact q2
  have HT : Hid (∀ Wx, Below W0.heap.size W0 Wx → Wx.heap[w.heap.size + 1 + 1]? = some (.cells (idA ts) 32 (0, 0))) := fun Wx h => by rw [h.block _ (by omega)]; exact q3
  have HB : Hid (Below w.heap.size w W0) := qb
  have hb0 : Below W0.heap.size W0 W0 := Below.refl _ _
  have HW : Hid (w.heap.size ≤ W0.heap.size) := qb.size
  clear q1 q2 q3 q4 qb
  have HI : ∀ b, Hid (inArc (val ks) (val fs) (val ts) = b) → Hid (Ending.returned (.bool b) = .returned (.bool (inArc (val ks) (val fs) (val ts)))) := fun b h => by show Ending.returned (.bool b) = _; rw [h.out]
  rcases tri (val fs) (val ts) with ⟨h1, e1⟩ | ⟨h1, e1⟩ | ⟨h1, e1⟩ <;> rcases tri (val fs) (val ks) with ⟨h2, e2⟩ | ⟨h2, e2⟩ | ⟨h2, e2⟩ <;> rcases tri (val ks) (val ts) with ⟨h3, e3⟩ | ⟨h3, e3⟩ | ⟨h3, e3⟩
  all_goals first
    | (exfalso; omega)
    | (have HR : Hid (Ending.returned (.bool true) = .returned (.bool (inArc (val ks) (val fs) (val ts)))) := HI true (by show inArc _ _ _ = true; unfold inArc; first | (rw [if_neg (by omega), if_neg (by omega)]; done) | (rw [if_pos (by omega)]; simp; omega) | (rw [if_neg (by omega), if_pos (by omega)]; simp; omega))
       clear h1 h2 h3 HI
       go_wp2_with (first | (refine wpList_load_row_w (by rfl) 32 (.tmp 4) rfl _ rfl 32 (idA fs) (0, 0) _ (HF.out _ (by assumption)) Try.underlying32 rfl sF ?_) | (refine wpList_load_row_w (by rfl) 32 (.tmp 5) rfl _ rfl 32 (idA ts) (0, 0) _ (HT.out _ (by assumption)) Try.underlying32 rfl sT ?_) | (refine wpList_load_row_w (by rfl) 32 (.tmp 3) rfl _ rfl 32 (idA ks) (0, 0) _ (HK.out _ (by assumption)) Try.underlying32 rfl sK ?_) | (go_at_call 22; refine (cmp_any _ _ _ (by assumption) (by assumption) (by assumption) (by assumption)).mono ?_; rintro e wN ⟨rfl, hbN⟩; replace hb0 := hb0.trans (hbN.mono hb0.size); clear hbN))
       go_ret
       exact ⟨HR.out, HB.out.trans (hb0.mono HW.out)⟩)
    | (have HR : Hid (Ending.returned (.bool false) = .returned (.bool (inArc (val ks) (val fs) (val ts)))) := HI false (by show inArc _ _ _ = false; unfold inArc; first | (rw [if_neg (by omega), if_neg (by omega)]; done) | (rw [if_pos (by omega)]; simp; omega) | (rw [if_neg (by omega), if_pos (by omega)]; simp; omega))
       clear h1 h2 h3 HI
       go_wp2_with (first | (refine wpList_load_row_w (by rfl) 32 (.tmp 4) rfl _ rfl 32 (idA fs) (0, 0) _ (HF.out _ (by assumption)) Try.underlying32 rfl sF ?_) | (refine wpList_load_row_w (by rfl) 32 (.tmp 5) rfl _ rfl 32 (idA ts) (0, 0) _ (HT.out _ (by assumption)) Try.underlying32 rfl sT ?_) | (refine wpList_load_row_w (by rfl) 32 (.tmp 3) rfl _ rfl 32 (idA ks) (0, 0) _ (HK.out _ (by assumption)) Try.underlying32 rfl sK ?_) | (go_at_call 22; refine (cmp_any _ _ _ (by assumption) (by assumption) (by assumption) (by assumption)).mono ?_; rintro e wN ⟨rfl, hbN⟩; replace hb0 := hb0.trans (hbN.mono hb0.size); clear hbN))
       go_ret
       exact ⟨HR.out, HB.out.trans (hb0.mono HW.out)⟩)
end Go.Proofs.Qxb6605895a
