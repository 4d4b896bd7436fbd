/-
  The proof of 'Rows.FnOnArcIsModularDistanceSaid'; the walks' theorems lie in Qxb6605895aMod.
-/
import Derived.Test.Qxb6605895aRows
import Derived.Test.Qxb6605895aOpen
import Derived.Test.Qxb6605895aMod
import Derived.WalkKit
import Derived.ProofKit
import Derived.OpenShut
import Derived.ShutString
import Derived.ChangeOld
import Derived.Below
namespace Go.Proofs.Qxb6605895a.fnOnArcIsModularDistance
open Go.ChangeShapes Go.WideShapes Go.ChangeAt Go.RowKit
set_option linter.unusedVariables false
set_option linter.unusedSimpArgs false

theorem own : ownKnob Try.prog.godebug = none := by kernel_rfl
theorem laidOut : laidOutB Try.prog = true := by kernel_rfl

set_option maxRecDepth 100000 in
set_option maxHeartbeats 1000000 in
theorem big_nil (ss ks : List Int) (a z : ByteArray) (w : World) (hsn : ss.length = 20) (hkn : ks.length = 20) (ha : a.size ≤ 9223372036854775807) (hz : z.size ≤ 9223372036854775807) (h : ¬ a.size + z.size ≤ 1048576) :
    Calls Try.prog 5 #[.agg (peerA ss a z), .agg (idA ks), .pointer none] w fun e w' => e = .returned (.bool true) ∧ Below w.heap.size w w' := by
  have s28 : (Try.prog.info? 28).map (·.size) = some (peerA ss a z).size := by rw [peerA_size _ _ _ hsn]; exact Try.size28
  have s26 : (Try.prog.info? 26).map (·.size) = some (idA ks).size := by rw [idA_size, hkn]; exact Try.size26
  have hd : decide (a.size + z.size ≤ 1048576) = false := decide_eq_false h
  have Q : Hid (_ ∧ _ ∧ _) := ⟨heap_alloc2_old w (.cells (peerA ss a z) 28) (.cells (idA ks) 26), heap_alloc2_new w (.cells (peerA ss a z) 28) (.cells (idA ks) 26), ((Below.refl _ w).alloc (Nat.le_refl _) (.cells (peerA ss a z) 28)).alloc (by simp) (.cells (idA ks) 26)⟩
  go_enter Try.func5, Try.ntmps5
  go_upto_region 1 with fail
  generalize (w.alloc (.cells (peerA ss a z) 28)).alloc (.cells (idA ks) 26) = W at *
  obtain ⟨q1, q2, qb⟩ := Q.out
  have H1 : Hid (W.heap[w.heap.size]? = some (.cells (peerA ss a z) 28 (0, 0))) := q1
  have H2 : Hid (W.heap[w.heap.size + 1]? = some (.cells (idA ks) 26 (0, 0))) := q2
  have HB : Hid (Below w.heap.size w W) := qb
  clear Q q1 q2 qb
  go_wp2_with (first | (refine wpList_load_row_w (by rfl) 28 (.tmp 3) rfl _ rfl 28 (peerA ss a z) (0, 0) _ H1.out Try.underlying28 rfl s28 ?_) | (refine wpList_load_row_w (by rfl) 26 (.tmp 4) rfl _ rfl 26 (idA ks) (0, 0) _ H2.out Try.underlying26 rfl s26 ?_))
  refine (bytes10_nil ss ks a z W hsn ha hz).mono ?_
  rw [hd]
  rintro e W1 ⟨rfl, hb1⟩
  replace HB := bel_trans HB (Nat.le_refl _) hb1
  go_wp2_with fail
  go_ret
  exact ⟨rfl, HB.out⟩

set_option maxRecDepth 100000 in
set_option maxHeartbeats 1000000 in
theorem big_some (pb po : Nat) (ss ks ps : List Int) (a z pa pz : ByteArray) (w : World) (hsn : ss.length = 20) (hkn : ks.length = 20) (hpn : ps.length = 20) (ha : a.size ≤ 9223372036854775807) (hz : z.size ≤ 9223372036854775807) (hpa : pa.size ≤ 9223372036854775807) (hpz : pz.size ≤ 9223372036854775807) (h : ¬ a.size + z.size + pa.size + pz.size ≤ 1048576)
    (hp : w.rangeAt pb po (peerL ps pa pz)) :
    Calls Try.prog 5 #[.agg (peerA ss a z), .agg (idA ks), .pointer (some ⟨pb, po, none⟩)] w fun e w' => e = .returned (.bool true) ∧ Below w.heap.size w w' := by
  have s28 : (Try.prog.info? 28).map (·.size) = some (peerA ss a z).size := by rw [peerA_size _ _ _ hsn]; exact Try.size28
  have s26 : (Try.prog.info? 26).map (·.size) = some (idA ks).size := by rw [idA_size, hkn]; exact Try.size26
  have hd : decide (a.size + z.size + pa.size + pz.size ≤ 1048576) = false := decide_eq_false h
  have Q : Hid (_ ∧ _ ∧ _) := ⟨heap_alloc2_old w (.cells (peerA ss a z) 28) (.cells (idA ks) 26), heap_alloc2_new w (.cells (peerA ss a z) 28) (.cells (idA ks) 26), ((Below.refl _ w).alloc (Nat.le_refl _) (.cells (peerA ss a z) 28)).alloc (by simp) (.cells (idA ks) 26)⟩
  go_enter Try.func5, Try.ntmps5
  go_upto_region 1 with fail
  generalize (w.alloc (.cells (peerA ss a z) 28)).alloc (.cells (idA ks) 26) = W at *
  obtain ⟨q1, q2, qb⟩ := Q.out
  have H1 : Hid (W.heap[w.heap.size]? = some (.cells (peerA ss a z) 28 (0, 0))) := q1
  have H2 : Hid (W.heap[w.heap.size + 1]? = some (.cells (idA ks) 26 (0, 0))) := q2
  have HB : Hid (Below w.heap.size w W) := qb
  have HP : Hid (W.rangeAt pb po (peerL ps pa pz)) := pAt_below hp qb
  clear Q q1 q2 qb hp
  go_wp2_with (first | (refine wpList_load_row_w (by rfl) 28 (.tmp 3) rfl _ rfl 28 (peerA ss a z) (0, 0) _ H1.out Try.underlying28 rfl s28 ?_) | (refine wpList_load_row_w (by rfl) 26 (.tmp 4) rfl _ rfl 26 (idA ks) (0, 0) _ H2.out Try.underlying26 rfl s26 ?_))
  refine (bytes10_some pb po ss ks ps a z pa pz W hsn hpn ha hz hpa hpz HP.out).mono ?_
  rw [hd]
  rintro e W1 ⟨rfl, hb1⟩
  replace HB := bel_trans HB (Nat.le_refl _) hb1
  go_wp2_with fail
  go_ret
  exact ⟨rfl, HB.out⟩

theorem walk (v0 v1 v2 : Value) (w : World) (w0 : ∃ (xs : List Int) (a z : ByteArray), v0 = .agg (peerA xs a z) ∧ xs.length = 20 ∧ Bytes xs ∧ a.size ≤ maxLen ∧ z.size ≤ maxLen)
    (w1 : ∃ ks : List Int, v1 = .agg (idA ks) ∧ ks.length = 20 ∧ Bytes ks)
    (w2 : v2 = .pointer none ∨ ∃ (b off : Nat) (xs : List Int) (a z : ByteArray), v2 = .pointer (some ⟨b, off, none⟩) ∧ w.rangeAt b off (peerL xs a z) ∧ xs.length = 20 ∧ Bytes xs ∧ a.size ≤ maxLen ∧ z.size ≤ maxLen) :
    Calls Try.prog 5 #[v0, v1, v2] w fun e w' => e = .returned (.bool true) ∧ Below w.heap.size w w' := by
  obtain ⟨ss, a, z, rfl, hsn, bs, ha, hz⟩ := w0
  obtain ⟨ks, rfl, hkn, bk⟩ := w1
  unfold maxLen at ha hz
  rcases w2 with rfl | ⟨pb, po, ps, pa, pz, rfl, hp, hpn, bp, hpa, hpz⟩
  · by_cases h : a.size + z.size ≤ 1048576
    · exact mod_nil ss ks a z w hsn hkn h
    · exact big_nil ss ks a z w hsn hkn ha hz h
  · unfold maxLen at hpa hpz
    by_cases h : a.size + z.size + pa.size + pz.size ≤ 1048576
    · exact mod_some pb po ss ks ps a z pa pz w hsn hkn hpn bs bk bp h hp
    · exact big_some pb po ss ks ps a z pa pz w hsn hkn hpn ha hz hpa hpz h hp

/-! ### The row's step -/
set_option maxRecDepth 100000 in
theorem lifted (os : Os) (started : os.Started) (H : Type) (enc : TypeId × Value → H) :
    ReturnsInHanded {} Try.checked os 5 .any (Rows.fnOnArcIsModularDistanceSpec.pre6 enc Try.prog Try.f5 Rows.fnOnArcIsModularDistanceRow.domain false) (Rows.fnOnArcIsModularDistanceSpec.post enc Try.prog Try.f5 false true false false) := by
  refine returnsInHanded_of_change (C := Try.checked) own started (by kernel_rfl) Try.func5
    (ChangeSpec.witness6 (enc := enc) (C := Try.checked) false ⟨#[], #[.agg #[.int .u8 0, .int .u8 0, .int .u8 0, .int .u8 0, .int .u8 0, .int .u8 0, .int .u8 0, .int .u8 0, .int .u8 0, .int .u8 0, .int .u8 0, .int .u8 0, .int .u8 0, .int .u8 0, .int .u8 0, .int .u8 0, .int .u8 0, .int .u8 0, .int .u8 0, .int .u8 0, .string ⟨#[]⟩, .string ⟨#[]⟩], .agg #[.int .u8 0, .int .u8 0, .int .u8 0, .int .u8 0, .int .u8 0, .int .u8 0, .int .u8 0, .int .u8 0, .int .u8 0, .int .u8 0, .int .u8 0, .int .u8 0, .int .u8 0, .int .u8 0, .int .u8 0, .int .u8 0, .int .u8 0, .int .u8 0, .int .u8 0, .int .u8 0], .pointer none], []⟩ 8 (by kernel_rfl) (by kernel_rfl) (by kernel_rfl) (by kernel_rfl)) ?_
  intro W base args ds gs before hval0 hW hcnd _
  have hval : ∀ (j : Nat) t v, Try.f5.params[j]? = some t → args[j]? = some v → Value.okWide Try.prog W .any base t v := hval0
  have hW' := hW
  obtain ⟨p, q, hA0, hV, rfl, hfz, hnd⟩ := hW
  have hA : DataW.TrodAll enc Try.prog W 0 (fun _ => true) true Try.f5.params.toList args.toList ds p := hA0
  rw [Try.params5] at hA hval
  obtain ⟨v0, vs0, d0, ds0, p0, q0, hargs, rfl, rfl, h0, r0⟩ := trodAll_cons hA
  obtain ⟨v1, vs1, d1, ds1, p1, q1, rfl, rfl, rfl, h1, r1⟩ := trodAll_cons r0
  obtain ⟨v2, vs2, d2, ds2, p2, q2, rfl, rfl, rfl, h2, r2⟩ := trodAll_cons r1
  obtain ⟨rfl, rfl, rfl⟩ := trodAll_nil r2
  obtain rfl : args = #[v0, v1, v2] := by cases args; simp_all
  obtain ⟨rfl, rfl⟩ := trodVars_none hV
  have lt0 : ∀ x ∈ p0, x.block < W.heap.size := by obtain ⟨m, hm⟩ := h0; exact DataW.trod_lt m _ _ _ hm
  have lt1 : ∀ x ∈ p1, x.block < W.heap.size := by obtain ⟨m, hm⟩ := h1; exact DataW.trod_lt m _ _ _ hm
  have lt2 : ∀ x ∈ p2, x.block < W.heap.size := by obtain ⟨m, hm⟩ := h2; exact DataW.trod_lt m _ _ _ hm
  have w0 := open_peer_arg (hval 0 28 v0 rfl rfl) h0
  have w1 := open_id_arg (hval 1 26 v1 rfl rfl) h1
  have w2 := open_ptr_arg (hval 2 29 v2 rfl rfl) h2
  clear hA0 hval0
  refine (walk v0 v1 v2 W w0 w1 w2).mono fun e W' ⟨he, bel⟩ => ?_
  subst he
  exact ⟨_, rfl, _, _, _, [], _, [], hW', trodAll_mk1 (shut_bool Try.underlying4 _), (trodAll_cons_mk (Below.trod laidOut (by kernel_rfl) (of_decide_eq_true (by kernel_rfl)) h0 bel lt0) (trodAll_cons_mk (Below.trod laidOut (by kernel_rfl) (of_decide_eq_true (by kernel_rfl)) h1 bel lt1) (trodAll_cons_mk (Below.trod laidOut (by kernel_rfl) (of_decide_eq_true (by kernel_rfl)) h2 bel lt2) trodAll_mk0))), rfl, bel.frame _, fun h => by cases h⟩

theorem over : Rows.fnOnArcIsModularDistanceRow.holds Try.pinned (OpenSpec.ofChange Rows.fnOnArcIsModularDistanceSpec) :=
  OpenClaim.holds_of_wide 5 Try.f5 rfl rfl rfl rfl rfl rfl rfl ⟨rfl, rfl, rfl, rfl, rfl⟩ rfl rfl rfl rfl rfl (by kernel_rfl) Try.func5 (by kernel_rfl)
    (of_decide_eq_true (by kernel_rfl)) (by unfold Func.isWrapper; first | (rw [if_pos (by decide +kernel)]; kernel_rfl) | (rw [if_neg (by decide +kernel)]; exact ⟨rfl, rfl⟩))
    (fun os started H enc _ => lifted os started H enc)

/-- THE STATEMENT -/
theorem proved : Rows.FnOnArcIsModularDistanceSaid := over
#print axioms proved
end Go.Proofs.Qxb6605895a.fnOnArcIsModularDistance
