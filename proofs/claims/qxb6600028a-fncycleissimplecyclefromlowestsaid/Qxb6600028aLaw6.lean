import Derived.Test.Qxb6600028aCycA
import Derived.BigQuiet
namespace Go.Proofs.Qxb6600028a
open Go.RowKit Go.Deep
/-- The places and the marks. -/
structure LM (w wr : World) (len m : Nat) (P : Nat → Int) (V : Nat → Bool) : Prop where
  since : w.Since w.heap.size wr
  pl : wr.rowIs w.heap.size 3 len (fun j => .int .i64 (P j))
  sn : wr.rowIs (w.heap.size + 1) 4 m (fun q => .bool (V q))
theorem LM.start (w : World) (len m : Nat) : LM w ((w.alloc (Obj.cells (madeCells #[Value.int IntKind.i64 0] len) 3)).alloc (Obj.cells (madeCells #[Value.bool false] m) 4)) len m (fun _ => 0) (fun _ => false) := by
  refine ⟨((World.Since.refl _ _).alloc (Nat.le_refl _) _).alloc (by rw [nblk_alloc]; omega) _, (World.rowIs_made w _ len 3).alloc _, ?_⟩
  have := World.rowIs_made (w.alloc (Obj.cells (madeCells #[Value.int IntKind.i64 0] len) 3)) (.bool false) m 4
  rw [nblk_alloc] at this
  exact this
theorem LM.set {w wr : World} {len m : Nat} {P : Nat → Int} {V : Nat → Bool} (h : LM w wr len m P V) (k a : Nat) : LM w ((wr.setCell ⟨w.heap.size + 1, a, none⟩ (.bool true)).setCell ⟨w.heap.size, k, none⟩ (.int .i64 a)) len m (upd P k a) (upd V a true) :=
  ⟨(h.since.setCell (by show w.heap.size ≤ w.heap.size + 1; omega) _).setCell (Nat.le_refl _) _,
   ((h.pl.setOther (by show w.heap.size ≠ w.heap.size + 1; omega) _).set k _).congr (fun j _ => upd_congr (Value.int .i64) P k (a : Int) j),
   ((h.sn.set a _).congr (fun j _ => upd_congr Value.bool V a true j)).setOther (by show w.heap.size + 1 ≠ w.heap.size; omega) _⟩

set_option maxRecDepth 100000 in
set_option maxHeartbeats 2000000 in
theorem law6 (n m : Nat) (X : Nat → Int) (L : Nat → Nat) (Z : Nat → Nat → Int) (nv sv : Value) (w : World) (hn : n ≤ 9223372036854775807) (hm : m ≤ 9223372036854775807) (hL : ∀ u, u < m → L u ≤ 9223372036854775807)
    (hN : IntsI w 0 nv n X) (hS : RowsI w sv m L Z) :
    Calls Try.prog 6 #[nv, sv] w fun e w' => e = .returned (.bool true) ∧ w.Since w.heap.size w' := by
  have c18 := zzB21 n m X L Z nv sv w hn hm hL hN hS
  have c10 := bytesWithin n m X L Z nv sv w hn hm hL hN hS
  have H18 : Hid (Calls Try.prog 21 #[nv, sv] w fun e w' => RetB True e ∧ w' = w) := c18
  have H10 : Hid (Calls Try.prog 10 #[nv, sv, .int .i64 1048576] w fun e w' => RetB (8 * n + 24 * m + 8 * sumTo L m ≤ 1048576) e ∧ w' = w) := c10
  have HN : Hid (IntsI w 0 nv n X) := hN
  have HS : Hid (RowsI w sv m L Z) := hS
  have HNV : Hid (∃ ao c, nv = .slice ao n c) := by obtain ⟨ao, _, _, c, h, _⟩ := hN; exact ⟨ao, c, h⟩
  clear c18 c10 hN hS hL hm
  go_enter Try.func6, Try.ntmps6
  go_wp2_with fail
  refine H18.out.mono ?_
  rintro e w1 ⟨⟨b, rfl, -⟩, rfl⟩
  cases b with
  | false =>
    go_wp2
    go_ret
    exact ⟨rfl, World.Since.refl _ _⟩
  | true =>
  go_wp2_with fail
  refine H10.out.mono ?_
  rintro e w1 ⟨⟨b, rfl, hb⟩, rfl⟩
  cases b with
  | false =>
    go_wp2
    go_ret
    exact ⟨rfl, World.Since.refl _ _⟩
  | true =>
  have hb' := hb rfl
  clear hb
  have HB : Hid (8 * n + 24 * m + 8 * sumTo L m ≤ 1048576) := hb'
  have hLb : ∀ u, u < m → L u ≤ 1048576 := fun u hu => by have := sumTo_term (f := L) hu; omega
  have H11 : Hid (Calls Try.prog 11 #[nv, sv] w1 fun e w' => RetB (VG n m X L Z) e ∧ w1.Since w1.heap.size w') := validGraph n m X L Z nv sv w1 (by omega) (by omega) hLb HN.out HS.out
  have HLB : Hid (∀ u, u < m → L u ≤ 1048576) := hLb
  clear hb' hLb H18 H10
  obtain ⟨nao, ncp, rfl⟩ := HNV.out
  clear HNV
  go_wp2_with fail
  refine H11.out.mono ?_
  rintro e w2 ⟨⟨b, rfl, hb⟩, hs2⟩
  cases b with
  | false =>
    go_wp2
    go_ret
    exact ⟨rfl, hs2⟩
  | true =>
  have HV : Hid (VG n m X L Z) := hb rfl
  have HS2 : Hid (w1.Since w1.heap.size w2) := hs2
  have hmn := (hb rfl).len
  clear hb hs2 H11
  subst hmn
  have HN2 : Hid (IntsI w2 0 (.slice nao m ncp) m X) := HN.out.since HS2.out
  have HR2 : Hid (RowsI w2 sv m L Z) := HS.out.since HS2.out
  clear HN HS
  have hm' : m ≤ 32768 := by have := HB.out; omega
  have H13 : Hid (Calls Try.prog 13 #[.slice nao m ncp] w2 fun e w' => RetS m (fun ao cap => IntsI w' w2.heap.size (.slice ao m cap) m X) e ∧ w2.Since w2.heap.size w') := copyInts _ m X w2 (by omega) HN2.out
  go_wp2_with fail
  refine H13.out.mono ?_
  rintro e w3 ⟨⟨na, nc, rfl, hi⟩, hs3⟩
  have HS3 : Hid (w1.Since w1.heap.size w3) := HS2.out.trans (since_le hs3 HS2.out.size)
  have HN3 : Hid (IntsI w3 0 (.slice na m nc) m X) := hi.low (Nat.zero_le _)
  have H14 : Hid (Calls Try.prog 14 #[sv] w3 fun e w' => RetS m (fun ao cap => RowsI w' (.slice ao m cap) m L Z) e ∧ w3.Since w3.heap.size w') := copyRows sv m L Z w3 (by omega) HLB.out (HR2.out.since hs3)
  clear hi hs3 HS2 H13 HN2 HR2
  go_wp2_with fail
  refine H14.out.mono ?_
  rintro e w4 ⟨⟨ra, rc, rfl, hi⟩, hs4⟩
  have HS4 : Hid (w1.Since w1.heap.size w4) := HS3.out.trans (since_le hs4 HS3.out.size)
  have HN4 : Hid (IntsI w4 0 (.slice na m nc) m X) := HN3.out.since hs4
  have HR4 : Hid (RowsI w4 (.slice ra m rc) m L Z) := hi
  have H16 : Hid (Calls Try.prog 16 #[.slice na m nc, .slice ra m rc] w4 fun e w' => e = .returned (.agg #[.slice na m nc, .slice ra m rc]) ∧ w4.Since w4.heap.size w') := newGraph _ _ w4 na m nc ra m rc rfl rfl
  clear hi hs4 HS3 H14 HN3
  go_wp2_with fail
  refine H16.out.mono ?_
  rintro e w5 ⟨rfl, hs5⟩
  have HB5 : Hid (w4.Since w4.heap.size (w5.alloc (.cells #[.slice na m nc, .slice ra m rc] 31))) := hs5.alloc hs5.size _
  have HS5 : Hid (w1.Since w1.heap.size (w5.alloc (.cells #[.slice na m nc, .slice ra m rc] 31))) := HS4.out.trans (since_le HB5.out HS4.out.size)
  have HN5 : Hid (IntsI (w5.alloc (.cells #[.slice na m nc, .slice ra m rc] 31)) 0 (.slice na m nc) m X) := HN4.out.since HB5.out
  have HR5 : Hid (RowsI (w5.alloc (.cells #[.slice na m nc, .slice ra m rc] 31)) (.slice ra m rc) (toGr m L Z).n (toGr m L Z).L (fun u j => ((toGr m L Z).Z u j : Int))) := HV.out.rows (HR4.out.since HB5.out)
  have H15 : Hid (Calls Try.prog 15 #[.agg #[.slice na m nc, .slice ra m rc]] (w5.alloc (.cells #[.slice na m nc, .slice ra m rc] 31)) fun e w' => RetL (toGr m L Z) e ∧ (w5.alloc (.cells #[.slice na m nc, .slice ra m rc] 31)).Since (w5.alloc (.cells #[.slice na m nc, .slice ra m rc] 31)).heap.size w') := zzLowest _ _ (toGr m L Z) X _ HV.out.ok (by show m ≤ _; omega) HLB.out HN5.out HR5.out
  clear hs5 HS4 H16 HN4 HR4
  go_wp2_with fail
  refine H15.out.mono ?_
  rintro e w6 ⟨⟨l, rfl, hl⟩, hs6⟩
  have HS6 : Hid (w1.Since w1.heap.size w6) := HS5.out.trans (since_le hs6 HS5.out.size)
  have HLW : Hid (LowSpec (toGr m L Z) l) := hl
  have HN6 : Hid (IntsI w6 0 (.slice na m nc) m X) := HN5.out.since hs6
  have HR6 : Hid (RowsI w6 (.slice ra m rc) (toGr m L Z).n (toGr m L Z).L (fun u j => ((toGr m L Z).Z u j : Int))) := HR5.out.since hs6
  have k0 : w6.cell? ⟨w5.heap.size, 0, none⟩ = some (.slice na m nc) := by
    rw [hs6.cell (a := ⟨w5.heap.size, 0, none⟩) (by simp)]
    unfold World.cell?
    rw [blk_alloc_new]
    rfl
  have k1 : w6.cell? ⟨w5.heap.size, 1, none⟩ = some (.slice ra m rc) := by
    rw [hs6.cell (a := ⟨w5.heap.size, 1, none⟩) (by simp)]
    unfold World.cell?
    rw [blk_alloc_new]
    rfl
  have H22 : Hid (Calls Try.prog 22 #[.agg #[.slice na m nc, .slice ra m rc]] w6 fun e w' => (∃ l, LowSpec (toGr m L Z) l ∧ RetC (toGr m L Z) X l w' e) ∧ w6.Since w6.heap.size w') := cycle _ _ (toGr m L Z) X w6 HV.out.ok (by show m ≤ _; omega) (by have := HB.out; show sumTo L m ≤ _; omega) HN6.out HR6.out
  clear hl hs6 HS5 H15 HN5 HR5 HB5
  go_wp2_with fail
  refine H22.out.mono ?_
  rintro e w7 ⟨⟨l', hl', hr⟩, hs7⟩
  have HS7 : Hid (w1.Since w1.heap.size w7) := HS6.out.trans (since_le hs7 HS6.out.size)
  have HN7 : Hid (IntsI w7 0 (.slice na m nc) m X) := HN6.out.since hs7
  have HR7 : Hid (RowsI w7 (.slice ra m rc) (toGr m L Z).n (toGr m L Z).L (fun u j => ((toGr m L Z).Z u j : Int))) := HR6.out.since hs7
  have HO := hr.out HV.out.ok HLW.out hl'
  clear hr hl' hs7 k0 k1 HS6 HN6 HR6 H22
  rcases HO with ⟨rfl, rfl⟩ | ⟨s, D, len, A, gc, cap, rfl, hs, hon, rfl, hD, hgir, hA, hcc⟩
  · have hnil : (binOp .eql 22 (.slice none 0 0) (.slice none 0 0)).run Try.prog w7 = .ok (.bool true) w7 := nil22 w7 none 0 0
    go_wp2
    go_ret
    exact ⟨rfl, HS7.out⟩
  · clear HLW hon hD hgir
    have hlm : len ≤ m := hA.le
    have hl2 := hA.two
    have hsm : s < m := hs
    have hs0 : decide ((s : Int) < 0) = false := by simp
    have hg1 : decide (m ≤ s) = false := by simp; omega
    have hg2 : decide (m < len) = false := by simp; omega
    have hg3 : decide ((len : Int) < 2) = false := by simp; omega
    have HA : Hid (CycA (toGr m L Z) s D len A) := hA
    obtain ⟨nb, no, hnn⟩ := HN7.out.out
    obtain rfl := (hnn s hsm).1
    have q0 : w7.cell? ⟨gc, 0, none⟩ = some (.int .i64 (X s)) := by rw [hcc 0 (by omega), hA.hd]
    have q1 : w7.cell? ⟨nb, no + s, none⟩ = some (.int .i64 (X s)) := (hnn s hsm).2
    have hmk3 := run_make_row' (P := Try.prog) 22 3 (.int .i64 0) 8 Try.underlying22 Try.info3 rfl .i64 .i64 len (by omega) (by omega)
    have hmk4 := run_make_row' (P := Try.prog) 34 4 (.bool false) 1 Try.underlying34 Try.info4 rfl .i64 .i64 m (by omega) (by omega)
    have HC7 : Hid (∀ i, i < len → w7.cell? ⟨gc, i, none⟩ = some (.int .i64 (X (A i)))) := hcc
    clear hA hcc hnn hs
    go_wp2_with (go_quiet (fail))
    have HSD : Hid (w1.Since w1.heap.size (w7.drewN nq)) := since_drewN HS7.out nq
    have HND : Hid (IntsI (w7.drewN nq) 0 (.slice (some ⟨nb, no, none⟩) m nc) m X) := HN7.out
    have HRD : Hid (RowsI (w7.drewN nq) (.slice ra m rc) (toGr m L Z).n (toGr m L Z).L (fun u j => ((toGr m L Z).Z u j : Int))) := HR7.out
    have HCD : Hid (∀ i, i < len → (w7.drewN nq).cell? ⟨gc, i, none⟩ = some (.int .i64 (X (A i)))) := HC7.out
    clear HS7 HN7 HR7 HC7 q0 q1 hmk3 hmk4
    generalize hw8 : w7.drewN nq = w8 at *
    have hz8 : w7.heap.size = w8.heap.size := by rw [← hw8]; rfl
    rw [hz8]
    clear hw8 hz8
    obtain ⟨sb, s0, R, C, rb, ro, hrr⟩ := HRD.out.out
    obtain rfl := (hrr s hsm).1
    have HR : Hid (∀ u, u < m → w8.cell? ⟨sb, s0 + u, none⟩ = some (.slice (R u) (L u) (C u)) ∧ ∀ j, j < L u → R u = some ⟨rb u, ro u, none⟩ ∧ w8.cell? ⟨rb u, ro u + j, none⟩ = some (.int .i64 ((toGr m L Z).Z u j))) := fun u hu => (hrr u hu).2
    clear hrr HRD
    have HSM0 : Hid (LM w8 ((w8.alloc (Obj.cells (madeCells #[Value.int IntKind.i64 0] len) 3)).alloc (Obj.cells (madeCells #[Value.bool false] m) 4)) len m (fun _ => 0) (fun _ => false)) := LM.start _ _ _
    go_loopg [12, 13] len (fun gk i q wr => ∃ (k : Nat) (P : Nat → Int) (V : Nat → Bool), k ≤ len ∧ gk = len - k ∧ i = .int .i64 k ∧ Hid ((∀ j, j < k → P j = A j) ∧ ∀ y, V y = true → ∃ j, j < k ∧ A j = y) ∧ LM w8 wr len m P V)
    case atStart => exact ⟨0, _, _, Nat.zero_le _, rfl, rfl, ⟨fun j hj => by omega, fun y hy => by simp at hy⟩, HSM0.out⟩
    case round =>
      clear HSM0
      obtain ⟨k, P, V, hk, rfl, rfl, hH, hM⟩ := hrel
      by_cases hlt : k < len
      · have hAk : A k < m := HA.out.lt k hlt
        have hlow : s ≤ A k := HA.out.low k hlt
        have hVk : V (A k) = false := by
          cases hv : V (A k) with
          | false => rfl
          | true =>
            obtain ⟨j, hj, he⟩ := hH.out.2 _ hv
            have := HA.out.inj j k (by omega) hlt he
            omega
        have c0 : wr.cell? ⟨gc, k, none⟩ = some (.int .i64 (X (A k))) := by rw [hM.since.cell (a := ⟨gc, k, none⟩) (World.block_lt_of_cell? _ _ (HCD.out k hlt))]; exact HCD.out k hlt
        have c1 : wr.cell? ⟨w8.heap.size + 1, A k, none⟩ = some (.bool false) := by rw [hM.sn.cell hAk, hVk]
        have c2 : wr.frozen? ⟨w8.heap.size + 1, A k, none⟩ = false := hM.sn.frozen _
        have c3 : wr.cell? ⟨w8.heap.size, k, none⟩ = some (.int .i64 (P k)) := hM.pl.cell hlt
        have c4 : wr.frozen? ⟨w8.heap.size, k, none⟩ = false := hM.pl.frozen _
        have H23 : Hid (Calls Try.prog 23 #[.slice (some ⟨nb, no, none⟩) m nc, .int .i64 (X (A k))] wr fun e w' => e = .returned (.int .i64 (A k)) ∧ w' = wr) := placeOf _ m X (A k) _ wr (by omega) hAk rfl (asc_all HV.out.asc) (HND.out.since hM.since)
        have HM2 : Hid (LM w8 ((wr.setCell ⟨w8.heap.size + 1, A k, none⟩ (.bool true)).setCell ⟨w8.heap.size, k, none⟩ (.int .i64 (A k))) len m (upd P k (A k)) (upd V (A k) true)) := hM.set k (A k)
        have HN : Hid ((∀ j, j < k + 1 → upd P k (A k : Int) j = A j) ∧ ∀ y, upd V (A k) true y = true → ∃ j, j < k + 1 ∧ A j = y) := by
          refine ⟨fun j hj => ?_, fun y hy => ?_⟩
          · by_cases e : j = k
            · rw [e, upd_same]
            · rw [upd_ne _ _ _ e]; exact hH.out.1 j (by omega)
          · by_cases e : y = A k
            · exact ⟨k, by omega, e.symm⟩
            · rw [upd_ne _ _ _ e] at hy
              obtain ⟨j, hj, he⟩ := hH.out.2 y hy
              exact ⟨j, by omega, he⟩
        clear hM hVk hH
        generalize hAA : A k = ak at *
        clear hAA
        go_wp2_with fail
        refine H23.out.mono ?_
        rintro e w9 ⟨rfl, rfl⟩
        clear H23
        have g1 : ¬ ((ak : Int) < (s : Int)) := by omega
        have g2 : ¬ ((ak : Int) < 0) := by omega
        go_wp2
        go_roundg (len - (k + 1))
        case measure => omega
        case rel => exact ⟨k + 1, _, _, by omega, rfl, by go_num, HN.out, HM2.out⟩
      · obtain rfl : k = len := by omega
        clear HND HCD
        have HP : Hid (∀ j, j < k → P j = A j) := hH.out.1
        clear hH
        go_wp2
        go_loopg [14, 15] k (fun gk i q wr' => ∃ (j : Nat), j ≤ k ∧ gk = k - j ∧ i = .int .i64 j ∧ wr' = wr)
        case atStart => exact ⟨0, Nat.zero_le _, rfl, rfl, rfl⟩
        case round =>
          obtain ⟨j, hj, rfl, rfl, rfl⟩ := hrel
          by_cases hlj : j < k
          · have c0 : wr.cell? ⟨w8.heap.size, 0, none⟩ = some (.int .i64 s) := by rw [hM.pl.cell (by omega), HP.out 0 (by omega), HA.out.hd]
            have c1 : wr.cell? ⟨w8.heap.size, j, none⟩ = some (.int .i64 (A j)) := by rw [hM.pl.cell hlj, HP.out j hlj]
            have hAj : A j < m := HA.out.lt j hlj
            obtain ⟨hrow, hents⟩ := HR.out (A j) hAj
            have c2 : wr.cell? ⟨sb, s0 + A j, none⟩ = some (.slice (R (A j)) (L (A j)) (C (A j))) := by rw [hM.since.cell (a := ⟨sb, s0 + A j, none⟩) (World.block_lt_of_cell? _ _ hrow)]; exact hrow
            have hh : ∀ y : Nat, Edge (toGr m L Z) (A j) y → Calls Try.prog 24 #[.slice (R (A j)) (L (A j)) (C (A j)), .int .i64 y] wr fun e w' => e = .returned (.bool true) ∧ w' = wr := fun y hy => by
              refine (hasArc (R (A j)) (L (A j)) (C (A j)) (rb (A j)) (ro (A j)) ((toGr m L Z).Z (A j)) y wr (HLB.out _ hAj) (fun i hi => ⟨(hents i hi).1, ?_⟩)).mono ?_
              · rw [hM.since.cell (a := ⟨rb (A j), ro (A j) + i, none⟩) (World.block_lt_of_cell? _ _ (hents i hi).2)]; exact (hents i hi).2
              · rintro e w' ⟨⟨b, rfl, hb⟩, rfl⟩
                have : b = true := hb.2 hy
                exact ⟨by rw [this], rfl⟩
            have HH : Hid (∀ y : Nat, Edge (toGr m L Z) (A j) y → Calls Try.prog 24 #[.slice (R (A j)) (L (A j)) (C (A j)), .int .i64 y] wr fun e w' => e = .returned (.bool true) ∧ w' = wr) := hh
            clear hh hrow hents
            by_cases hn1 : j + 1 < k
            · have c3 : wr.cell? ⟨w8.heap.size, j + 1, none⟩ = some (.int .i64 (A (j + 1))) := by rw [hM.pl.cell hn1, HP.out _ hn1]
              have H24 := HH.out _ (HA.out.arc j hn1)
              have H24' : Hid (Calls Try.prog 24 #[.slice (R (A j)) (L (A j)) (C (A j)), .int .i64 (A (j + 1))] wr fun e w' => e = .returned (.bool true) ∧ w' = wr) := H24
              have HM' : Hid (LM w8 wr k m P V) := hM
              have hn2 : (j : Int) + 1 < (k : Int) := by omega
              clear H24 HH hM
              generalize A (j + 1) = aj1 at *
              generalize A j = aj at *
              go_wp2_with fail
              refine H24'.out.mono ?_
              rintro e w9 ⟨rfl, rfl⟩
              clear H24'
              go_wp2
              go_roundg (k - (j + 1))
              case measure => omega
              case rel => exact ⟨j + 1, by omega, rfl, by go_num, rfl⟩
            · have H24 := HH.out s (by have := HA.out.cl; rw [show k - 1 = j by omega] at this; exact this)
              have H24' : Hid (Calls Try.prog 24 #[.slice (R (A j)) (L (A j)) (C (A j)), .int .i64 s] wr fun e w' => e = .returned (.bool true) ∧ w' = wr) := H24
              have hn2 : ¬ ((j : Int) + 1 < (k : Int)) := by omega
              have HM' : Hid (LM w8 wr k m P V) := hM
              clear H24 HH hM
              generalize A j = aj at *
              go_wp2_with fail
              refine H24'.out.mono ?_
              rintro e w9 ⟨rfl, rfl⟩
              clear H24'
              go_wp2
              go_roundg (k - (j + 1))
              case measure => omega
              case rel => exact ⟨j + 1, by omega, rfl, by go_num, rfl⟩
          · obtain rfl : j = k := by omega
            go_wp2
            go_ret
            exact ⟨rfl, HSD.out.trans (since_le hM.since HSD.out.size)⟩
end Go.Proofs.Qxb6600028a
