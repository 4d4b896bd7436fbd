/-
  The walks of zzBytes_.. (10, 17) and peerBytes (11).
-/
import Derived.Test.Qxb6605895aPeer
namespace Go.Proofs.Qxb6605895a
open Go.RowKit
set_option linter.unusedSimpArgs false

theorem pAt_below {w W : World} {b o : Nat} {l : List Value} (h : w.rangeAt b o l) (hb : Below w.heap.size w W) : W.rangeAt b o l :=
  fun j v hj => (hb.cell (World.block_lt_of_cell? w _ (h j v hj))).trans (h j v hj)

theorem pAt_parts {w : World} {b o : Nat} {xs : List Int} {a z : ByteArray} (hn : xs.length = 20) (h : w.rangeAt b o (peerL xs a z)) :
    w.rangeAt b o (idL xs) ∧ w.cell? ⟨b, o + 20, none⟩ = some (.string a) ∧ w.cell? ⟨b, o + 21, none⟩ = some (.string z) := by
  refine ⟨fun j v hj => h j v ?_, h 20 _ ?_, h 21 _ ?_⟩
  · have hl := (List.getElem?_eq_some_iff.1 hj).1
    rw [peerL, List.getElem?_append_left hl]; exact hj
  · have := peerA_20 xs a z hn
    rwa [peerA, List.getElem?_toArray] at this
  · have := peerA_21 xs a z hn
    rwa [peerA, List.getElem?_toArray] at this

set_option maxRecDepth 100000 in
set_option maxHeartbeats 1000000 in
theorem bytes10_nil (ss ks : List Int) (a z : ByteArray) (w : World) (hsn : ss.length = 20) (ha : a.size ≤ 9223372036854775807) (hz : z.size ≤ 9223372036854775807) :
    Calls Try.prog 10 #[.agg (peerA ss a z), .agg (idA ks), .pointer none] w fun e w' => e = .returned (.bool (decide (a.size + z.size ≤ 1048576))) ∧ Below w.heap.size w w' := by
  have Q : Hid (_ ∧ _) := ⟨heap_alloc2_old w (.cells (peerA ss a z) 28) (.cells (idA ks) 26), ((Below.refl _ w).alloc (Nat.le_refl _) (.cells (peerA ss a z) 28)).alloc (by simp) (.cells (idA ks) 26)⟩
  go_enter Try.func10, Try.ntmps10
  go_upto_region 1 with fail
  generalize (w.alloc (.cells (peerA ss a z) 28)).alloc (.cells (idA ks) 26) = W at *
  obtain ⟨q1, qb⟩ := Q.out
  clear Q
  obtain ⟨p1, p2, p3⟩ := peerAt_row hsn q1
  have HB : Hid (Below w.heap.size w W) := qb
  clear q1 qb p1
  by_cases h : a.size + z.size ≤ 1048576
  · have HD : Hid (decide (a.size + z.size ≤ 1048576) = true) := decide_eq_true h
    go_wp2
    go_ret
    exact ⟨by rw [HD.out]; rfl, HB.out⟩
  · have HD : Hid (decide (a.size + z.size ≤ 1048576) = false) := decide_eq_false h
    by_cases h1 : a.size ≤ 1048576
    · by_cases h2 : z.size ≤ 1048576
      · go_wp2
        go_ret
        exact ⟨by rw [HD.out]; rfl, HB.out⟩
      · go_wp2
        go_ret
        exact ⟨by rw [HD.out]; rfl, HB.out⟩
    · go_wp2
      go_ret
      exact ⟨by rw [HD.out]; rfl, HB.out⟩

set_option maxRecDepth 100000 in
set_option maxHeartbeats 1000000 in
theorem bytes10_some (pb po : Nat) (ss ks ps : List Int) (a z pa pz : ByteArray) (w : World) (hsn : ss.length = 20) (hpn : ps.length = 20) (ha : a.size ≤ 9223372036854775807) (hz : z.size ≤ 9223372036854775807) (hpa : pa.size ≤ 9223372036854775807) (hpz : pz.size ≤ 9223372036854775807)
    (hp : w.rangeAt pb po (peerL ps pa pz)) :
    Calls Try.prog 10 #[.agg (peerA ss a z), .agg (idA ks), .pointer (some ⟨pb, po, none⟩)] w fun e w' => e = .returned (.bool (decide (a.size + z.size + pa.size + pz.size ≤ 1048576))) ∧ Below w.heap.size w w' := by
  have Q : Hid (_ ∧ _) := ⟨heap_alloc2_old w (.cells (peerA ss a z) 28) (.cells (idA ks) 26), ((Below.refl _ w).alloc (Nat.le_refl _) (.cells (peerA ss a z) 28)).alloc (by simp) (.cells (idA ks) 26)⟩
  go_enter Try.func10, Try.ntmps10
  go_upto_region 1 with fail
  generalize (w.alloc (.cells (peerA ss a z) 28)).alloc (.cells (idA ks) 26) = W at *
  obtain ⟨q1, qb⟩ := Q.out
  clear Q
  obtain ⟨p1, p2, p3⟩ := peerAt_row hsn q1
  obtain ⟨_, r2, r3⟩ := pAt_parts hpn (pAt_below hp qb)
  have HB : Hid (Below w.heap.size w W) := qb
  clear q1 qb p1 hp
  by_cases h : a.size + z.size + pa.size + pz.size ≤ 1048576
  · have HD : Hid (decide (a.size + z.size + pa.size + pz.size ≤ 1048576) = true) := decide_eq_true h
    go_wp2
    go_ret
    exact ⟨by rw [HD.out]; rfl, HB.out⟩
  · have HD : Hid (decide (a.size + z.size + pa.size + pz.size ≤ 1048576) = false) := decide_eq_false h
    by_cases h1 : a.size ≤ 1048576
    · by_cases h2 : z.size ≤ 1048576
      · by_cases h3 : a.size + z.size ≤ 1048576
        · by_cases h4 : pa.size ≤ 1048576
          · by_cases h5 : a.size + z.size + pa.size ≤ 1048576
            · by_cases h6 : pz.size ≤ 1048576
              · go_wp2
                go_ret
                exact ⟨by rw [HD.out]; rfl, HB.out⟩
              · go_wp2
                go_ret
                exact ⟨by rw [HD.out]; rfl, HB.out⟩
            · go_wp2
              go_ret
              exact ⟨by rw [HD.out]; rfl, HB.out⟩
          · go_wp2
            go_ret
            exact ⟨by rw [HD.out]; rfl, HB.out⟩
        · go_wp2
          go_ret
          exact ⟨by rw [HD.out]; rfl, HB.out⟩
      · go_wp2
        go_ret
        exact ⟨by rw [HD.out]; rfl, HB.out⟩
    · go_wp2
      go_ret
      exact ⟨by rw [HD.out]; rfl, HB.out⟩

set_option maxRecDepth 100000 in
set_option maxHeartbeats 1000000 in
theorem bytes17_nil (ss ks : List Int) (a z : ByteArray) (w : World) (hsn : ss.length = 20) (ha : a.size ≤ 9223372036854775807) (hz : z.size ≤ 9223372036854775807) :
    Calls Try.prog 17 #[.agg (peerA ss a z), .agg (idA ks), .pointer none] w fun e w' => e = .returned (.bool (decide (a.size + z.size ≤ 1048576))) ∧ Below w.heap.size w w' := by
  have Q : Hid (_ ∧ _) := ⟨heap_alloc2_old w (.cells (peerA ss a z) 28) (.cells (idA ks) 26), ((Below.refl _ w).alloc (Nat.le_refl _) (.cells (peerA ss a z) 28)).alloc (by simp) (.cells (idA ks) 26)⟩
  go_enter Try.func17, Try.ntmps17
  go_upto_region 1 with fail
  generalize (w.alloc (.cells (peerA ss a z) 28)).alloc (.cells (idA ks) 26) = W at *
  obtain ⟨q1, qb⟩ := Q.out
  clear Q
  obtain ⟨p1, p2, p3⟩ := peerAt_row hsn q1
  have HB : Hid (Below w.heap.size w W) := qb
  clear q1 qb p1
  by_cases h : a.size + z.size ≤ 1048576
  · have HD : Hid (decide (a.size + z.size ≤ 1048576) = true) := decide_eq_true h
    go_wp2
    go_ret
    exact ⟨by rw [HD.out]; rfl, HB.out⟩
  · have HD : Hid (decide (a.size + z.size ≤ 1048576) = false) := decide_eq_false h
    by_cases h1 : a.size ≤ 1048576
    · by_cases h2 : z.size ≤ 1048576
      · go_wp2
        go_ret
        exact ⟨by rw [HD.out]; rfl, HB.out⟩
      · go_wp2
        go_ret
        exact ⟨by rw [HD.out]; rfl, HB.out⟩
    · go_wp2
      go_ret
      exact ⟨by rw [HD.out]; rfl, HB.out⟩

set_option maxRecDepth 100000 in
set_option maxHeartbeats 1000000 in
theorem bytes17_some (pb po : Nat) (ss ks ps : List Int) (a z pa pz : ByteArray) (w : World) (hsn : ss.length = 20) (hpn : ps.length = 20) (ha : a.size ≤ 9223372036854775807) (hz : z.size ≤ 9223372036854775807) (hpa : pa.size ≤ 9223372036854775807) (hpz : pz.size ≤ 9223372036854775807)
    (hp : w.rangeAt pb po (peerL ps pa pz)) :
    Calls Try.prog 17 #[.agg (peerA ss a z), .agg (idA ks), .pointer (some ⟨pb, po, none⟩)] w fun e w' => e = .returned (.bool (decide (a.size + z.size + pa.size + pz.size ≤ 1048576))) ∧ Below w.heap.size w w' := by
  have Q : Hid (_ ∧ _) := ⟨heap_alloc2_old w (.cells (peerA ss a z) 28) (.cells (idA ks) 26), ((Below.refl _ w).alloc (Nat.le_refl _) (.cells (peerA ss a z) 28)).alloc (by simp) (.cells (idA ks) 26)⟩
  go_enter Try.func17, Try.ntmps17
  go_upto_region 1 with fail
  generalize (w.alloc (.cells (peerA ss a z) 28)).alloc (.cells (idA ks) 26) = W at *
  obtain ⟨q1, qb⟩ := Q.out
  clear Q
  obtain ⟨p1, p2, p3⟩ := peerAt_row hsn q1
  obtain ⟨_, r2, r3⟩ := pAt_parts hpn (pAt_below hp qb)
  have HB : Hid (Below w.heap.size w W) := qb
  clear q1 qb p1 hp
  by_cases h : a.size + z.size + pa.size + pz.size ≤ 1048576
  · have HD : Hid (decide (a.size + z.size + pa.size + pz.size ≤ 1048576) = true) := decide_eq_true h
    go_wp2
    go_ret
    exact ⟨by rw [HD.out]; rfl, HB.out⟩
  · have HD : Hid (decide (a.size + z.size + pa.size + pz.size ≤ 1048576) = false) := decide_eq_false h
    by_cases h1 : a.size ≤ 1048576
    · by_cases h2 : z.size ≤ 1048576
      · by_cases h3 : a.size + z.size ≤ 1048576
        · by_cases h4 : pa.size ≤ 1048576
          · by_cases h5 : a.size + z.size + pa.size ≤ 1048576
            · by_cases h6 : pz.size ≤ 1048576
              · go_wp2
                go_ret
                exact ⟨by rw [HD.out]; rfl, HB.out⟩
              · go_wp2
                go_ret
                exact ⟨by rw [HD.out]; rfl, HB.out⟩
            · go_wp2
              go_ret
              exact ⟨by rw [HD.out]; rfl, HB.out⟩
          · go_wp2
            go_ret
            exact ⟨by rw [HD.out]; rfl, HB.out⟩
        · go_wp2
          go_ret
          exact ⟨by rw [HD.out]; rfl, HB.out⟩
      · go_wp2
        go_ret
        exact ⟨by rw [HD.out]; rfl, HB.out⟩
    · go_wp2
      go_ret
      exact ⟨by rw [HD.out]; rfl, HB.out⟩

set_option maxRecDepth 100000 in
set_option maxHeartbeats 1000000 in
theorem peerBytes_nil (ss : List Int) (a z : ByteArray) (w : World) (hsn : ss.length = 20) (h : a.size + z.size ≤ 1048576) :
    Calls Try.prog 11 #[.agg (peerA ss a z), .pointer none] w fun e w' => e = .returned (.int .i64 ((a.size + z.size : Nat) : Int)) ∧ Below w.heap.size w w' := by
  have Q : Hid (_ ∧ _) := ⟨heap_alloc_new w (.cells (peerA ss a z) 28), (Below.refl _ w).alloc (Nat.le_refl _) (.cells (peerA ss a z) 28)⟩
  go_enter Try.func11, Try.ntmps11
  go_upto_region 1 with fail
  generalize w.alloc (.cells (peerA ss a z) 28) = W at *
  obtain ⟨q1, qb⟩ := Q.out
  clear Q
  obtain ⟨p1, p2, p3⟩ := peerAt_row hsn q1
  have HB : Hid (Below w.heap.size w W) := qb
  have e1 : Hid (capA 0 (a.size : Int) = a.size) := by show capA _ _ = _; unfold capA; rw [if_neg (by omega)]; omega
  have e2 : Hid (capA (a.size : Int) (z.size : Int) = ((a.size + z.size : Nat) : Int)) := by show capA _ _ = _; unfold capA; rw [if_neg (by omega)]; omega
  clear q1 qb p1
  go_wp2_with fail
  refine (capAdd_any _ _ _ (by omega) (by omega) (by omega) (by omega)).mono ?_
  rintro e w' ⟨rfl, rfl⟩
  rw [e1.out]
  go_wp2_with fail
  refine (capAdd_any _ _ _ (by omega) (by omega) (by omega) (by omega)).mono ?_
  rintro e w' ⟨rfl, rfl⟩
  rw [e2.out]
  go_wp2_with fail
  go_ret
  exact ⟨rfl, HB.out⟩

set_option maxRecDepth 100000 in
set_option maxHeartbeats 1000000 in
theorem peerBytes_some (pb po : Nat) (ss ps : List Int) (a z pa pz : ByteArray) (w : World) (hsn : ss.length = 20) (hpn : ps.length = 20) (h : a.size + z.size + pa.size + pz.size ≤ 1048576)
    (hp : w.rangeAt pb po (peerL ps pa pz)) :
    Calls Try.prog 11 #[.agg (peerA ss a z), .pointer (some ⟨pb, po, none⟩)] w fun e w' => e = .returned (.int .i64 ((a.size + z.size + pa.size + pz.size : Nat) : Int)) ∧ Below w.heap.size w w' := by
  have Q : Hid (_ ∧ _) := ⟨heap_alloc_new w (.cells (peerA ss a z) 28), (Below.refl _ w).alloc (Nat.le_refl _) (.cells (peerA ss a z) 28)⟩
  go_enter Try.func11, Try.ntmps11
  go_upto_region 1 with fail
  generalize w.alloc (.cells (peerA ss a z) 28) = W at *
  obtain ⟨q1, qb⟩ := Q.out
  clear Q
  obtain ⟨p1, p2, p3⟩ := peerAt_row hsn q1
  obtain ⟨_, r2, r3⟩ := pAt_parts hpn (pAt_below hp qb)
  have HB : Hid (Below w.heap.size w W) := qb
  have e1 : Hid (capA 0 (a.size : Int) = a.size) := by show capA _ _ = _; unfold capA; rw [if_neg (by omega)]; omega
  have e2 : Hid (capA (a.size : Int) (z.size : Int) = ((a.size + z.size : Nat) : Int)) := by show capA _ _ = _; unfold capA; rw [if_neg (by omega)]; omega
  have e3 : Hid (capA ((a.size + z.size : Nat) : Int) (pa.size : Int) = ((a.size + z.size + pa.size : Nat) : Int)) := by show capA _ _ = _; unfold capA; rw [if_neg (by omega)]; omega
  have e4 : Hid (capA ((a.size + z.size + pa.size : Nat) : Int) (pz.size : Int) = ((a.size + z.size + pa.size + pz.size : Nat) : Int)) := by show capA _ _ = _; unfold capA; rw [if_neg (by omega)]; omega
  clear q1 qb p1 hp
  go_wp2_with fail
  refine (capAdd_any _ _ _ (by omega) (by omega) (by omega) (by omega)).mono ?_
  rintro e w' ⟨rfl, rfl⟩
  rw [e1.out]
  go_wp2_with fail
  refine (capAdd_any _ _ _ (by omega) (by omega) (by omega) (by omega)).mono ?_
  rintro e w' ⟨rfl, rfl⟩
  rw [e2.out]
  generalize hq2 : a.size + z.size = q2 at *
  have Hq2 : Hid (a.size + z.size = q2) := hq2
  clear hq2
  go_wp2_with fail
  refine (capAdd_any _ _ _ (by omega) (by omega) (by omega) (by omega)).mono ?_
  rintro e w' ⟨rfl, rfl⟩
  rw [e3.out]
  generalize hq3 : q2 + pa.size = q3 at *
  have Hq3 : Hid (q2 + pa.size = q3) := hq3
  clear hq3
  go_wp2_with fail
  refine (capAdd_any _ _ _ (by omega) (by omega) (by omega) (by omega)).mono ?_
  rintro e w' ⟨rfl, rfl⟩
  rw [e4.out]
  go_wp2_with fail
  go_ret
  exact ⟨(by have h2 := Hq2.out; have h3 := Hq3.out; exact congrArg (fun x : Int => Ending.returned (.int .i64 x)) (show (q3 : Int) + (pz.size : Int) = _ by omega)), HB.out⟩
end Go.Proofs.Qxb6605895a
