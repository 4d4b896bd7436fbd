/-
  The law's own walk (6): entries there are. (Made by tools/lk8.py.)
-/
import Derived.Test.Qxb6605873aLk2
import Derived.Test.Qxb6605873aLk3
import Derived.Test.Qxb6605873aLk6
import Derived.Test.Qxb6605873aLk7
namespace Go.Proofs.Qxb6605873a
open Go.RowKit Go.Sort
set_option linter.unusedSimpArgs false
set_option linter.unusedVariables false

set_option maxHeartbeats 16000000 in
set_option maxRecDepth 100000 in
theorem main_n (d0 d1 d2 : Addr) (n c0 c1 c2 : Nat) (z0 z1 z2 : List Int) (kk wh dd : Int) (w : World) (h17 : 8 * (n + n) + n ≤ 1048576)
    (l0 : n ≤ z0.length) (l1 : n ≤ z1.length) (l2 : n ≤ z2.length)
    (hc0 : ∀ j, j < n → w.cell? (d0.add j) = some (.int .u32 (z0[j]?.getD 0))) (hc1 : ∀ j, j < n → w.cell? (d1.add j) = some (.int .u8 (z1[j]?.getD 0))) (hc2 : ∀ j, j < n → w.cell? (d2.add j) = some (.int .i64 (z2[j]?.getD 0)))
    (hp : ∀ j, j < n → 0 ≤ z0[j]?.getD 0 ∧ z0[j]?.getD 0 < 4294967296) (hx : ∀ j, j < n → 0 ≤ z1[j]?.getD 0 ∧ z1[j]?.getD 0 < 256) (ho : ∀ j, j < n → z2[j]?.getD 0 ≤ 9223372036854775807)
    (hw : 3 ≤ wh) (hw2 : wh < 256) :
    Calls Try.prog 6 #[.slice (some d0) n c0, .slice (some d1) n c1, .slice (some d2) n c2, .int .i64 kk, .int .u8 wh, .int .u32 dd] w fun e w' => e = .returned (.bool true) ∧ RowKit.Below w.heap.size w w' := by
  have hn : n ≤ 1048576 := by omega
  have hmkI := run_make_row' (P := Try.prog) 34 3 (.int .i64 0) 8 Try.underlying34 Try.infoB3 rfl .i64 .i64 n (by omega) (by omega)
  have hmk32 := run_make_row' (P := Try.prog) 32 43 (.int .u32 0) 4 Try.underlying32 Try.infoB43 rfl .i64 .i64 n (by omega) (by omega)
  have hmk64 := run_make_row' (P := Try.prog) 33 23 (.int .u64 0) 8 Try.underlying33 Try.infoB23 rfl .i64 .i64 n (by omega) (by omega)
  have H21 := hidU (bytes21 (some d0) (some d1) (some d2) n c0 n c1 n c2 kk wh dd w)
  have H22 := hidU (prem_u (some d0) (some d1) (some d2) n c0 c1 c2 (fun j => z1[j]?.getD 0) (fun j => z2[j]?.getD 0) w hn hx ⟨by simp, fun ad ha j hj => by obtain rfl := Option.some.inj ha; exact hc1 j hj⟩ ⟨by simp, fun ad ha j hj => by obtain rfl := Option.some.inj ha; exact hc2 j hj⟩)
  obtain ⟨pos, hpos⟩ : ∃ pos : Nat → Int, pos = fun j => z0[j]?.getD 0 := ⟨_, rfl⟩
  obtain ⟨xor, hxor⟩ : ∃ xor : Nat → Nat, xor = fun j => (z1[j]?.getD 0).toNat := ⟨_, rfl⟩
  obtain ⟨off, hoff⟩ : ∃ off : Nat → Int, off = fun j => z2[j]?.getD 0 := ⟨_, rfl⟩
  have Hpos := hidU hpos
  have Hxor := hidU hxor
  have Hoff := hidU hoff
  have Hhc0 := hidU hc0
  have Hhc1 := hidU hc1
  have Hhc2 := hidU hc2
  have Hhp := hidU hp
  have Hhx := hidU hx
  have Hho := hidU ho
  clear hc0 hc1 hc2 hp hx ho hpos hxor hoff
  go_enter Try.func6, Try.ntmps6
  go_wp2_with fail
  refine H21.out.mono ?_
  rintro e w' ⟨b, rfl, rfl⟩
  cases b
  · go_wp2_with fail
    go_ret
    exact ⟨rfl, RowKit.Below.refl _ _⟩
  go_wp2_with fail
  refine H22.out.mono ?_
  rintro e w2 ⟨b, rfl, hb2, hP⟩
  have HB := hidU hb2
  cases b
  · clear hP hb2
    go_wp2_with fail
    go_ret
    exact ⟨rfl, HB.out⟩
  have HP := hidU (hP rfl)
  clear hP hb2 H21 H22
  have Hx2 : Hid (∀ i, i < n → xor i ≤ i) := hidU (fun i hi => by have := HP.out.x i hi; rw [Hxor.out]; simp only at this ⊢; omega)
  have Ho2 : Hid (∀ i, i < n → 0 ≤ off i ∧ off i ≤ 9223372036854775807) := hidU (fun i hi => by have := HP.out.o i hi; have := Hho.out i hi; rw [Hoff.out]; simp only at *; omega)
  have Hp2 : Hid (∀ i, i < n → 0 ≤ pos i ∧ pos i < 4294967296) := hidU (fun i hi => by rw [Hpos.out]; exact Hhp.out i hi)
  go_wp2_with fail
  refine (clone_pos32 d0 n c0 z0 w2 l0 hn (fun i hi => (HB.out.cell (World.block_lt_of_cell? w _ (Hhc0.out i hi))).trans (Hhc0.out i hi))).mono ?_
  rintro e w3 ⟨gE, rfl, hr, hb⟩
  have HE0 : Hid (RowF .u32 w3 gE n pos) := hidU (hr.congr (fun t ht => by rw [Hpos.out]))
  have HB3 := hidU (Below.step HB.out hb (Nat.le_refl _))
  clear hr hb HB
  go_wp2_with fail
  refine (clone_pos8 d1 n c1 z1 w3 l1 hn (fun i hi => (HB3.out.cell (World.block_lt_of_cell? w _ (Hhc1.out i hi))).trans (Hhc1.out i hi))).mono ?_
  rintro e w4 ⟨gX, rfl, hr, hb⟩
  have HE1 : Hid (RowF .u8 w4 gX n (fun i => (xor i : Int))) := hidU (hr.congr (fun t ht => by have := (Hhx.out t ht).1; rw [Hxor.out]; simp only; omega))
  have HE0b := hidU (HE0.out.below hb HE0.out.lt)
  have HB4 := hidU (Below.step HB3.out hb (Nat.le_refl _))
  clear hr hb HB3 HE0
  go_wp2_with fail
  refine (clone_posI d2 n c2 z2 w4 l2 hn (fun i hi => (HB4.out.cell (World.block_lt_of_cell? w _ (Hhc2.out i hi))).trans (Hhc2.out i hi))).mono ?_
  rintro e w5 ⟨gO, rfl, hr, hb⟩
  have HE2 : Hid (RowF .i64 w5 gO n off) := hidU (hr.congr (fun t ht => by rw [Hoff.out]))
  have HE0 := hidU (HE0b.out.below hb HE0b.out.lt)
  have HE1b := hidU (HE1.out.below hb HE1.out.lt)
  have HB5 := hidU (Below.step HB4.out hb (Nat.le_refl _))
  clear hr hb HB4 HE0b HE1
  go_wp2_with fail
  refine (ranks_u (some ⟨gE, 0, none⟩) n n pos w5 HE0.out.toSrc hn).mono ?_
  rintro e w6 ⟨gR, rfl, hgR, hb, σ, r, o1, o2, hr⟩
  have HR := hidU hr
  have HO1 := hidU o1
  have HO2 := hidU o2
  have HRK := hidU (o1.rank o2)
  have HE0b := hidU (HE0.out.below hb HE0.out.lt)
  have HE1 := hidU (HE1b.out.below hb HE1b.out.lt)
  have HE2b := hidU (HE2.out.below hb HE2.out.lt)
  have HB6 := hidU (Below.step HB5.out hb (Nat.le_refl _))
  clear hr hb o1 o2 HB5 HE0 HE1b HE2 hgR Hhc0 Hhc1 Hhc2
  go_wp2_with fail
  go_loopw [17] (fun v17 wz => ∃ (i : Nat) (f : Nat → Nat), v17 = .int .i64 i ∧ i ≤ n ∧ Hid (RowKit.Below w6.heap.size w6 wz) ∧ Hid (RowF .i64 wz w6.heap.size n (fun t => (f t : Int))) ∧ Hid (∀ t, t < i → f (r t) = t)) (fun v17 _ => n - (intOf v17).toNat)
  case atStart => exact ⟨0, fun _ => 0, rfl, Nat.zero_le _, Below.alloc' (RowKit.Below.refl _ _) (Nat.le_refl _) _, RowF.made .i64 w6 n 3, fun t ht => by omega⟩
  case round =>
    obtain ⟨i, f, rfl, hi, HBo, HRo, HFo⟩ := hrel
    by_cases hin : i < n
    · have hcr := (HR.out.below HBo.out HR.out.lt).cell
      have hri := (HRK.out i hin).1
      have hco := HRo.out.cell
      have hfo := HRo.out.fz
      go_wp2_with fail
      go_roundw
      case rel =>
        refine ⟨i + 1, upd f (r i) i, by go_num, by omega, Below.set' HBo.out _ _ (Nat.le_refl _) _, (HRo.out.set (r i) hri i).congr (fun t ht => by unfold upd; split <;> rfl), ?_⟩
        intro t ht
        by_cases e : t = i
        · subst e; exact upd_same _ _ _
        · rw [upd_off _ _ _ (fun e' => e (by rw [← (HRK.out t (by omega)).2, e', (HRK.out i hin).2]))]; exact HFo.out t (by omega)
      case measure => simp [intOf]; omega
    · have HQ := hidU (HRo.out.congr (f' := fun q => (σ q : Int)) (fun q hq => by have e1 := HO2.out q hq; have e2 := HFo.out (σ q) (by have := HO1.out.lt q hq; omega); rw [e1] at e2; rw [e2]))
      have HR7 := hidU (HR.out.below HBo.out HR.out.lt)
      have HE07 := hidU (HE0b.out.below HBo.out HE0b.out.lt)
      have HE17 := hidU (HE1.out.below HBo.out HE1.out.lt)
      have HE27 := hidU (HE2b.out.below HBo.out HE2b.out.lt)
      have HB7 := hidU (Below.step HB6.out HBo.out (Nat.le_refl _))
      have ngE0 : gE ≠ wr.heap.size  := by have := HE07.out.lt; omega
      have ngE1 : gE ≠ wr.heap.size + 1 := by have := HE07.out.lt; omega
      have ngE2 : gE ≠ wr.heap.size + 1 + 1 := by have := HE07.out.lt; omega
      have ngX0 : gX ≠ wr.heap.size  := by have := HE17.out.lt; omega
      have ngX1 : gX ≠ wr.heap.size + 1 := by have := HE17.out.lt; omega
      have ngX2 : gX ≠ wr.heap.size + 1 + 1 := by have := HE17.out.lt; omega
      have ngO0 : gO ≠ wr.heap.size  := by have := HE27.out.lt; omega
      have ngO1 : gO ≠ wr.heap.size + 1 := by have := HE27.out.lt; omega
      have ngO2 : gO ≠ wr.heap.size + 1 + 1 := by have := HE27.out.lt; omega
      have ngR0 : gR ≠ wr.heap.size  := by have := HR7.out.lt; omega
      have ngR1 : gR ≠ wr.heap.size + 1 := by have := HR7.out.lt; omega
      have ngR2 : gR ≠ wr.heap.size + 1 + 1 := by have := HR7.out.lt; omega
      clear HRo HFo HR HE0b HE1 HE2b HB6 HBo hi
      go_wp2_with fail
      go_loopw [21] (fun v21 wz => ∃ (q : Nat) (P O X : Nat → Int), v21 = .int .i64 q ∧ q ≤ n ∧ Hid (RowKit.Below wr.heap.size wr wz) ∧ Hid (RowF .u32 wz wr.heap.size n P) ∧ Hid (RowF .u64 wz (wr.heap.size + 1) n O) ∧ Hid (RowF .u32 wz (wr.heap.size + 1 + 1) n X) ∧ Hid (∀ t, t < q → P t = pos (σ t) ∧ O t = off (σ t) ∧ X t = rowX xor r (σ t))) (fun v21 _ => n - (intOf v21).toNat)
      case atStart =>
        refine ⟨0, fun _ => 0, fun _ => 0, fun _ => 0, rfl, Nat.zero_le _, Below.alloc' (Below.alloc' (Below.alloc' (RowKit.Below.refl _ _) (Nat.le_refl _) _) (by simp only [sizeA]; omega) _) (by simp only [sizeA]; omega) _, ((RowF.made .u32 wr n 43).alloc _).alloc _, ?_, ?_, fun t ht => by omega⟩
        · have := RowF.made .u64 (wr.alloc (.cells (madeCells #[Value.int .u32 0] n) 43)) n 23
          rw [sizeA] at this; exact this.alloc _
        · have := RowF.made .u32 ((wr.alloc (.cells (madeCells #[Value.int .u32 0] n) 43)).alloc (.cells (madeCells #[Value.int .u64 0] n) 23)) n 43
          rw [sizeA, sizeA] at this; exact this
      case round =>
        obtain ⟨q, P, O, X, rfl, hq, HBq, HPq, HOq, HXq, HV⟩ := hrel
        by_cases hqn : q < n
        · have hsn := HO1.out.lt q hqn
          have hcq := (HQ.out.below HBq.out HQ.out.lt).cell
          have hcr := (HR7.out.below HBq.out HR7.out.lt).cell
          have hc0 := (HE07.out.below HBq.out HE07.out.lt).cell
          have hc1 := (HE17.out.below HBq.out HE17.out.lt).cell
          have hc2 := (HE27.out.below HBq.out HE27.out.lt).cell
          have hcP := HPq.out.cell
          have hcO := HOq.out.cell
          have hcX := HXq.out.cell
          have hfP := HPq.out.fz
          have hfO := HOq.out.fz
          have hfX := HXq.out.fz
          have hxx := Hx2.out (σ q) hsn
          have hoo := Ho2.out (σ q) hsn
          have hsub : σ q - xor (σ q) < n := by omega
          have hrs := (HRK.out (σ q - xor (σ q)) hsub).1
          by_cases hx0 : xor (σ q) = 0
          · go_wp2_with fail
            go_roundw
            case rel =>
              refine ⟨q + 1, _, _, _, by go_num, by omega, Below.set' (Below.set' (Below.set' HBq.out _ _ (by omega) _) _ _ (by omega) _) _ _ (by omega) _, ((HPq.out.set q hqn _).other _ _ (by omega) _).other _ _ (by omega) _, ((HOq.out.other _ _ (by omega) _).set q hqn _).other _ _ (by omega) _, ((HXq.out.other _ _ (by omega) _).other _ _ (by omega) _).set q hqn _, ?_⟩
              intro t ht
              by_cases e : t = q
              · subst e; simp only [upd_same]; exact ⟨trivial, trivial, by simp [rowX, hx0]⟩
              · simp only [upd_off _ _ _ e]; exact HV.out t (by omega)
            case measure => simp [intOf]; omega
          · go_wp2_with fail
            go_roundw
            case rel =>
              refine ⟨q + 1, _, _, _, by go_num, by omega, Below.set' (Below.set' (Below.set' (Below.set' HBq.out _ _ (by omega) _) _ _ (by omega) _) _ _ (by omega) _) _ _ (by omega) _, (((HPq.out.set q hqn _).other _ _ (by omega) _).other _ _ (by omega) _).other _ _ (by omega) _, (((HOq.out.other _ _ (by omega) _).set q hqn _).other _ _ (by omega) _).other _ _ (by omega) _, (((HXq.out.other _ _ (by omega) _).other _ _ (by omega) _).set q hqn _).set q hqn _, ?_⟩
              intro t ht
              by_cases e : t = q
              · subst e; simp only [upd_same]; exact ⟨trivial, trivial, by simp [rowX, hx0]⟩
              · simp only [upd_off _ _ _ e]; exact HV.out t (by omega)
            case measure => simp [intOf]; omega
        · have HVV : Hid (∀ t, t < n → P t = pos (σ t) ∧ O t = off (σ t) ∧ X t = rowX xor r (σ t)) := hidU (fun t ht => HV.out t (by omega))
          have HE08 := hidU (HE07.out.below HBq.out HE07.out.lt)
          have HE18 := hidU (HE17.out.below HBq.out HE17.out.lt)
          have HE28 := hidU (HE27.out.below HBq.out HE27.out.lt)
          have HB8 := hidU (Below.step HB7.out HBq.out (Nat.le_refl _))
          have hws := HB7.out.size
          clear HV HE07 HE17 HE27 HB7 HBq HQ HR7 hq
          go_wp2_with fail
          refine (zz_u _ _ _ n n n n (some ⟨gE, 0, none⟩) (some ⟨gX, 0, none⟩) (some ⟨gO, 0, none⟩) pos xor off P O X wr HPq.out HOq.out HXq.out HE08.out.toSrc HE18.out.toSrc HE28.out.toSrc hn Hp2.out Hx2.out Ho2.out).mono ?_
          rintro e w9 ⟨hb, σ', r', o1, o2, hR⟩
          have HAG := hidU (rows_agree (xor := xor) HO1.out HO2.out o1 o2)
          have HB9 := hidU (Below.step HB8.out hb (Nat.le_refl _))
          clear hb o1 o2
          rcases hR with ⟨rfl, hv⟩ | ⟨q', hq', rfl, hv, hv2⟩
          · clear hv
            go_wp2_with fail
            go_ret
            exact ⟨rfl, HB9.out⟩
          · exfalso
            apply hv2
            rw [(HAG.out q' hq').2, (HAG.out q' hq').1]
            exact HVV.out q' hq'
end Go.Proofs.Qxb6605873a
