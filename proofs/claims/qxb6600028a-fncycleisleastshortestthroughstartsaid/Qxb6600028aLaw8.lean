import Derived.Test.Qxb6600028aBellWalk
namespace Go.Proofs.Qxb6600028a
open Go.RowKit Go.Deep
set_option maxRecDepth 100000 in
set_option maxHeartbeats 2000000 in
theorem law8 (n m : Nat) (X : Nat → Int) (L : Nat → Nat) (Z : Nat → Nat → Int) (nv sv : Value) (w : World) (hn : n ≤ 9223372036854775807) (hm : m ≤ 9223372036854775807) (hL : ∀ u, u < m → L u ≤ 9223372036854775807)
    (hN : IntsI w 0 nv n X) (hS : RowsI w sv m L Z) :
    Calls Try.prog 8 #[nv, sv] w fun e w' => e = .returned (.bool true) ∧ w.Since w.heap.size w' := by
  have c18 := zzB27 n m X L Z nv sv w hn hm hL hN hS
  have c10 := bytesWithin n m X L Z nv sv w hn hm hL hN hS
  have H18 : Hid (Calls Try.prog 27 #[nv, sv] w fun e w' => RetB True e ∧ w' = w) := c18
  have H10 : Hid (Calls Try.prog 10 #[nv, sv, .int .i64 1048576] w fun e w' => RetB (8 * n + 24 * m + 8 * sumTo L m ≤ 1048576) e ∧ w' = w) := c10
  have HN : Hid (IntsI w 0 nv n X) := hN
  have HS : Hid (RowsI w sv m L Z) := hS
  have HNV : Hid (∃ ao c, nv = .slice ao n c) := by obtain ⟨ao, _, _, c, h, _⟩ := hN; exact ⟨ao, c, h⟩
  clear c18 c10 hN hS hL hm
  go_enter Try.func8, Try.ntmps8
  go_wp2_with fail
  refine H18.out.mono ?_
  rintro e w1 ⟨⟨b, rfl, -⟩, rfl⟩
  cases b with
  | false =>
    go_wp2
    go_ret
    exact ⟨rfl, World.Since.refl _ _⟩
  | true =>
  go_wp2_with fail
  refine H10.out.mono ?_
  rintro e w1 ⟨⟨b, rfl, hb⟩, rfl⟩
  cases b with
  | false =>
    go_wp2
    go_ret
    exact ⟨rfl, World.Since.refl _ _⟩
  | true =>
  have hb' := hb rfl
  clear hb
  have HB : Hid (8 * n + 24 * m + 8 * sumTo L m ≤ 1048576) := hb'
  have hLb : ∀ u, u < m → L u ≤ 1048576 := fun u hu => by have := sumTo_term (f := L) hu; omega
  have H11 : Hid (Calls Try.prog 11 #[nv, sv] w1 fun e w' => RetB (VG n m X L Z) e ∧ w1.Since w1.heap.size w') := validGraph n m X L Z nv sv w1 (by omega) (by omega) hLb HN.out HS.out
  have HLB : Hid (∀ u, u < m → L u ≤ 1048576) := hLb
  clear hb' hLb H18 H10
  obtain ⟨nao, ncp, rfl⟩ := HNV.out
  clear HNV
  by_cases hq1 : 1024 < n
  · go_wp2
    go_ret
    exact ⟨rfl, World.Since.refl _ _⟩
  go_wp2_with fail
  refine H11.out.mono ?_
  rintro e w2 ⟨⟨b, rfl, hb⟩, hs2⟩
  cases b with
  | false =>
    go_wp2
    go_ret
    exact ⟨rfl, hs2⟩
  | true =>
  have HV : Hid (VG n m X L Z) := hb rfl
  have HS2 : Hid (w1.Since w1.heap.size w2) := hs2
  have hmn := (hb rfl).len
  clear hb hs2 H11
  subst hmn
  have HN2 : Hid (IntsI w2 0 (.slice nao m ncp) m X) := HN.out.since HS2.out
  have HR2 : Hid (RowsI w2 sv m L Z) := HS.out.since HS2.out
  clear HN HS
  have hm' : m ≤ 32768 := by have := HB.out; omega
  have H12 : Hid (Calls Try.prog 12 #[sv] w2 fun e w' => e = .returned (.int .i64 (sumTo L m)) ∧ w' = w2) := arcCount m L Z sv w2 (by omega) (fun k hk => by have := HB.out; have := sumTo_le (f := L) hk; omega) HR2.out
  go_wp2_with fail
  refine H12.out.mono ?_
  rintro e w2' ⟨rfl, rfl⟩
  clear H12
  have hsl : sumTo L m ≤ 1048576 := by have := HB.out; omega
  by_cases hq2 : 16384 < sumTo L m
  · go_wp2
    go_ret
    exact ⟨rfl, HS2.out⟩
  have H13 : Hid (Calls Try.prog 13 #[.slice nao m ncp] w2' fun e w' => RetS m (fun ao cap => IntsI w' w2'.heap.size (.slice ao m cap) m X) e ∧ w2'.Since w2'.heap.size w') := copyInts _ m X w2' (by omega) HN2.out
  go_wp2_with fail
  refine H13.out.mono ?_
  rintro e w3 ⟨⟨na, nc, rfl, hi⟩, hs3⟩
  have HS3 : Hid (w1.Since w1.heap.size w3) := HS2.out.trans (since_le hs3 HS2.out.size)
  have HN3 : Hid (IntsI w3 0 (.slice na m nc) m X) := hi.low (Nat.zero_le _)
  have H14 : Hid (Calls Try.prog 14 #[sv] w3 fun e w' => RetS m (fun ao cap => RowsI w' (.slice ao m cap) m L Z) e ∧ w3.Since w3.heap.size w') := copyRows sv m L Z w3 (by omega) HLB.out (HR2.out.since hs3)
  clear hi hs3 HS2 H13 HN2 HR2
  go_wp2_with fail
  refine H14.out.mono ?_
  rintro e w4 ⟨⟨ra, rc, rfl, hi⟩, hs4⟩
  have HS4 : Hid (w1.Since w1.heap.size w4) := HS3.out.trans (since_le hs4 HS3.out.size)
  have HN4 : Hid (IntsI w4 0 (.slice na m nc) m X) := HN3.out.since hs4
  have HR4 : Hid (RowsI w4 (.slice ra m rc) m L Z) := hi
  have H16 : Hid (Calls Try.prog 16 #[.slice na m nc, .slice ra m rc] w4 fun e w' => e = .returned (.agg #[.slice na m nc, .slice ra m rc]) ∧ w4.Since w4.heap.size w') := newGraph _ _ w4 na m nc ra m rc rfl rfl
  clear hi hs4 HS3 H14 HN3
  go_wp2_with fail
  refine H16.out.mono ?_
  rintro e w5 ⟨rfl, hs5⟩
  have HB5 : Hid (w4.Since w4.heap.size (w5.alloc (.cells #[.slice na m nc, .slice ra m rc] 31))) := hs5.alloc hs5.size _
  have HS5 : Hid (w1.Since w1.heap.size (w5.alloc (.cells #[.slice na m nc, .slice ra m rc] 31))) := HS4.out.trans (since_le HB5.out HS4.out.size)
  have HN5 : Hid (IntsI (w5.alloc (.cells #[.slice na m nc, .slice ra m rc] 31)) 0 (.slice na m nc) m X) := HN4.out.since HB5.out
  have HR5 : Hid (RowsI (w5.alloc (.cells #[.slice na m nc, .slice ra m rc] 31)) (.slice ra m rc) (toGr m L Z).n (toGr m L Z).L (fun u j => ((toGr m L Z).Z u j : Int))) := HV.out.rows (HR4.out.since HB5.out)
  have H15 : Hid (Calls Try.prog 15 #[.agg #[.slice na m nc, .slice ra m rc]] (w5.alloc (.cells #[.slice na m nc, .slice ra m rc] 31)) fun e w' => RetL (toGr m L Z) e ∧ (w5.alloc (.cells #[.slice na m nc, .slice ra m rc] 31)).Since (w5.alloc (.cells #[.slice na m nc, .slice ra m rc] 31)).heap.size w') := zzLowest _ _ (toGr m L Z) X _ HV.out.ok (by show m ≤ _; omega) HLB.out HN5.out HR5.out
  clear hs5 HS4 H16 HN4 HR4
  go_wp2_with fail
  refine H15.out.mono ?_
  rintro e w6 ⟨⟨l, rfl, hl⟩, hs6⟩
  have HS6 : Hid (w1.Since w1.heap.size w6) := HS5.out.trans (since_le hs6 HS5.out.size)
  have HLW : Hid (LowSpec (toGr m L Z) l) := hl
  have HN6 : Hid (IntsI w6 0 (.slice na m nc) m X) := HN5.out.since hs6
  have HR6 : Hid (RowsI w6 (.slice ra m rc) (toGr m L Z).n (toGr m L Z).L (fun u j => ((toGr m L Z).Z u j : Int))) := HR5.out.since hs6
  have k0 : w6.cell? ⟨w5.heap.size, 0, none⟩ = some (.slice na m nc) := by
    rw [hs6.cell (a := ⟨w5.heap.size, 0, none⟩) (by simp)]
    unfold World.cell?
    rw [blk_alloc_new]
    rfl
  have k1 : w6.cell? ⟨w5.heap.size, 1, none⟩ = some (.slice ra m rc) := by
    rw [hs6.cell (a := ⟨w5.heap.size, 1, none⟩) (by simp)]
    unfold World.cell?
    rw [blk_alloc_new]
    rfl
  have H22 : Hid (Calls Try.prog 22 #[.agg #[.slice na m nc, .slice ra m rc]] w6 fun e w' => (∃ l, LowSpec (toGr m L Z) l ∧ RetC (toGr m L Z) X l w' e) ∧ w6.Since w6.heap.size w') := cycle _ _ (toGr m L Z) X w6 HV.out.ok (by show m ≤ _; omega) (by have := HB.out; show sumTo L m ≤ _; omega) HN6.out HR6.out
  clear hl hs6 HS5 H15 HN5 HR5 HB5
  rcases HLW.out with ⟨rfl, _⟩ | ⟨s, rfl, hsm', hon', _⟩
  · go_wp2
    go_ret
    exact ⟨rfl, HS6.out⟩
  have hs0 : decide ((s : Int) < 0) = false := by simp
  go_wp2_with fail
  refine H22.out.mono ?_
  rintro e w7 ⟨⟨l', hl', hr⟩, hs7⟩
  have HS7 : Hid (w1.Since w1.heap.size w7) := HS6.out.trans (since_le hs7 HS6.out.size)
  have HN7 : Hid (IntsI w7 0 (.slice na m nc) m X) := HN6.out.since hs7
  have HR7 : Hid (RowsI w7 (.slice ra m rc) (toGr m L Z).n (toGr m L Z).L (fun u j => ((toGr m L Z).Z u j : Int))) := HR6.out.since hs7
  have HO := hr.out HV.out.ok HLW.out hl'
  clear hr hl' hs7 k0 k1 HS6 HN6 HR6 H22
  rcases HO with ⟨h, rfl⟩ | ⟨s', D, len, A, gc, cap, he, hs, hon, rfl, hD, hgir, hA, hcc⟩
  · omega
  obtain rfl : s = s' := by omega
  clear he hon hon' hsm' HLW
  have hlm : len ≤ m := hA.le
  have hl2 := hA.two
  have hsm : s < m := hs
  have hg1 : decide (m ≤ s) = false := by simp; omega
  have hg2 : decide (m < len) = false := by simp; omega
  have hg3 : decide ((len : Int) < 2) = false := by simp; omega
  have HGI : Hid (Girth (toGr m L Z) s len) := hgir
  have HD : Hid (ToS (toGr m L Z) s D) := hD
  have HA : Hid (CycA (toGr m L Z) s D len A) := hA
  have HCC : Hid (∀ i, i < len → w7.cell? ⟨gc, i, none⟩ = some (.int .i64 (X (A i)))) := hcc
  have hmk3 := run_make_row' (P := Try.prog) 22 3 (.int .i64 0) 8 Try.underlying22 Try.info3 rfl .i64 .i64 len (by omega) (by omega)
  obtain ⟨sb, s0, R, C, rb, ro, hrr⟩ := HR7.out.out
  obtain rfl := (hrr s hsm).1
  have HR : Hid (RowsA w7 sb s0 (toGr m L Z) m R C rb ro) := fun u hu => (hrr u hu).2
  have HSL : Hid (sumTo L m ≤ 16384) := by show sumTo L m ≤ 16384; omega
  have hm4 : m ≤ 1024 := by omega
  clear hA hcc hgir hs hD hrr HR7 hsl hq2 hq1
  go_wp2
  clear hmk3
  have HM0 : Hid (BM w7 (w7.alloc (.cells (madeCells #[.int .i64 0] len) 3)) len (fun _ => 0)) := ⟨(World.Since.refl _ _).alloc (Nat.le_refl _) _, World.rowIs_made w7 _ len 3⟩
  go_loopg [11, 12] len (fun gk i q wr => ∃ (k : Nat) (P : Nat → Int), k ≤ len ∧ gk = len - k ∧ i = .int .i64 k ∧ Hid (∀ j, j < k → P j = A j) ∧ BM w7 wr len P)
  case atStart => exact ⟨0, _, Nat.zero_le _, rfl, rfl, fun j hj => by omega, HM0.out⟩
  case round =>
    clear HM0
    obtain ⟨k, P, hk, rfl, rfl, hP, hM⟩ := hrel
    by_cases hlt : k < len
    · have hAk : A k < m := HA.out.lt k hlt
      have c0 : wr.cell? ⟨gc, k, none⟩ = some (.int .i64 (X (A k))) := by rw [hM.since.cell (a := ⟨gc, k, none⟩) (World.block_lt_of_cell? _ _ (HCC.out k hlt))]; exact HCC.out k hlt
      have c3 : wr.cell? ⟨w7.heap.size, k, none⟩ = some (.int .i64 (P k)) := hM.ds.cell hlt
      have c4 : wr.frozen? ⟨w7.heap.size, k, none⟩ = false := hM.ds.frozen _
      have H23 : Hid (Calls Try.prog 23 #[.slice na m nc, .int .i64 (X (A k))] wr fun e w' => e = .returned (.int .i64 (A k)) ∧ w' = wr) := placeOf _ m X (A k) _ wr (by omega) hAk rfl (asc_all HV.out.asc) (HN7.out.since hM.since)
      have HM2 : Hid (BM w7 (wr.setCell ⟨w7.heap.size, k, none⟩ (.int .i64 (A k))) len (upd P k (A k))) := hM.set k (A k)
      have HN : Hid (∀ j, j < k + 1 → upd P k (A k : Int) j = A j) := by
        intro j hj
        by_cases e : j = k
        · rw [e, upd_same]
        · rw [upd_ne _ _ _ e]; exact hP.out j (by omega)
      clear hM hP
      generalize hAA : A k = ak at *
      clear hAA
      go_wp2_with fail
      refine H23.out.mono ?_
      rintro e w9 ⟨rfl, rfl⟩
      clear H23
      have g2 : ¬ ((ak : Int) < 0) := by omega
      go_wp2
      go_roundg (len - (k + 1))
      case measure => omega
      case rel => exact ⟨k + 1, _, by omega, rfl, by go_num, HN.out, HM2.out⟩
    · obtain rfl : k = len := by omega
      have HSD : Hid (w1.Since w1.heap.size wr) := HS7.out.trans (since_le hM.since HS7.out.size)
      have HRD : Hid (RowsA wr sb s0 (toGr m L Z) m R C rb ro) := HR.out.since hM.since
      have c0 : wr.cell? ⟨w7.heap.size, 0, none⟩ = some (.int .i64 s) := by rw [hM.ds.cell (by omega), hP.out 0 (by omega), HA.out.hd]
      have HPL : Hid (∀ j, j < k → wr.cell? ⟨w7.heap.size, j, none⟩ = some (.int .i64 (A j))) := fun j hj => by rw [hM.ds.cell hj, hP.out j hj]
      have hmk3 := run_make_row' (P := Try.prog) 22 3 (.int .i64 0) 8 Try.underlying22 Try.info3 rfl .i64 .i64 m (by omega) (by omega)
      clear hM hP HS7 HN7 HCC HR
      generalize wr = wd at *
      go_wp2
      clear hmk3 c0
      go_loopg [14] m (fun gk i wr => ∃ k : Nat, k ≤ m ∧ gk = m - k ∧ i = .int .i64 k ∧ BM wd wr m (fun j => if j < k then -1 else 0))
      case atStart => exact ⟨0, Nat.zero_le _, rfl, rfl, (World.Since.refl _ _).alloc (Nat.le_refl _) _, (World.rowIs_made wd _ m 3).congr (fun j _ => by simp)⟩
      case round =>
        obtain ⟨i, hi, rfl, rfl, hM⟩ := hrel
        by_cases hli : i < m
        · have d1 : wr.cell? ⟨wd.heap.size, i, none⟩ = some (.int .i64 0) := by simpa using hM.ds.cell hli
          have d2 : wr.frozen? ⟨wd.heap.size, i, none⟩ = false := hM.ds.frozen i
          go_wp2
          go_roundg (m - (i + 1))
          case measure => omega
          case rel =>
            refine ⟨i + 1, by omega, rfl, by go_num, hM.since.setCell (Nat.le_refl _) _, (hM.ds.set i _).congr (fun j _ => ?_)⟩
            by_cases e : j = i
            · subst e; simp
            · rw [if_neg e]
              by_cases h : j < i
              · rw [if_pos h, if_pos (by omega)]
              · rw [if_neg h, if_neg (by omega)]
        · obtain rfl : i = m := by omega
          have d1 : wr.cell? ⟨wd.heap.size, s, none⟩ = some (.int .i64 (-1)) := by rw [hM.ds.cell hsm, if_pos hsm]
          have d2 : wr.frozen? ⟨wd.heap.size, s, none⟩ = false := hM.ds.frozen s
          have HM1 : Hid (BM wd (wr.setCell ⟨wd.heap.size, s, none⟩ (.int .i64 0)) i (upd (fun _ => -1) s 0)) :=
            BM.set (B := fun _ => -1) ⟨hM.since, hM.ds.congr (fun j hj => by rw [if_pos hj])⟩ s 0
          clear hM
          go_wp2
          clear d1 d2
          refine wp_mk 273 rfl rfl ?_
          refine wp_cut 4 _ (bell_loop wd sb s0 rc (toGr i L Z) i s k D rfl HV.out.ok hm4 HSL.out hlm HD.out R C rb ro HRD.out _ _ rfl rfl rfl rfl rfl HM1.out) ?_
          clear HM1
          rintro a3 w3 ⟨hsz, hdf, ⟨e1, e6, e9, e10, e13⟩, b, B, hb, hBF, hBM⟩
          rw [← mkA_slot hsz hdf]
          clear hsz hdf
          have e1' : slot a3 1 = .slice (some ⟨sb, s0, none⟩) i rc := e1
          have e6' : slot a3 6 = .int .i64 s := e6
          have e9' : slot a3 9 = .int .i64 k := e9
          have e10' : slot a3 10 = .slice (some ⟨w7.heap.size, 0, none⟩) k k := e10
          have e13' : slot a3 13 = .slice (some ⟨wd.heap.size, 0, none⟩) i i := e13
          clear e1 e6 e9 e10 e13
          generalize slot a3 = f3 at *
          rw [mkA_273, e1', e6', e9', e10', e13']
          clear e1' e6' e9' e10' e13'
          have HS3 : Hid (w1.Since w1.heap.size w3) := HSD.out.trans (since_le hBM.since HSD.out.size)
          have HR3 : Hid (∀ u, u < i → w3.cell? ⟨sb, s0 + u, none⟩ = some (.slice (R u) (L u) (C u)) ∧ ∀ j, j < L u → R u = some ⟨rb u, ro u, none⟩ ∧ w3.cell? ⟨rb u, ro u + j, none⟩ = some (.int .i64 ((toGr i L Z).Z u j))) := HRD.out.since hBM.since
          have HP3 : Hid (∀ j, j < k → w3.cell? ⟨w7.heap.size, j, none⟩ = some (.int .i64 (A j))) := fun j hj => by
            rw [hBM.since.cell (a := ⟨w7.heap.size, j, none⟩) (World.block_lt_of_cell? _ _ (HPL.out j hj))]; exact HPL.out j hj
          have HB3 : Hid (∀ x, x < i → w3.cell? ⟨wd.heap.size, x, none⟩ = some (.int .i64 (B x)) ∧ B x ≤ 33554432) := fun x hx => ⟨hBM.ds.cell hx, by have := hBF.bd x hx; omega⟩
          have HBF : Hid (BF (toGr i L Z) s D k 0 b B) := hBF
          have HRG : Hid (∀ u, u < i → ∀ j, j < L u → (toGr i L Z).Z u j < i) := fun u hu j hj => (HV.out.ok.rng u hu j hj).1
          have hLs : 0 < L s := by
            obtain ⟨j, hj, _⟩ := HA.out.arc 0 (by omega)
            rw [HA.out.hd] at hj
            have hj' : j < L s := hj
            omega
          have hLsb : L s ≤ 1048576 := HLB.out s hsm
          have hrs : w3.cell? ⟨sb, s0 + s, none⟩ = some (.slice (some ⟨rb s, ro s, none⟩) (L s) (C s)) := by
            have h := HR3.out s hsm
            rw [h.1, (h.2 0 hLs).1]
          clear hBM hBF HSD HRD HPL hb
          go_wp2
          clear hrs
          go_loopg [21, 22] (L s) (fun gk ij iw wr => ∃ j : Nat, j ≤ L s ∧ gk = L s - j ∧ ij = .int .i64 j ∧ w3 = wr)
          case atStart => exact ⟨0, Nat.zero_le _, rfl, rfl, rfl⟩
          case round =>
            obtain ⟨j, hj, rfl, rfl, rfl⟩ := hrel
            by_cases hlj : j < L s
            · obtain ⟨x, hzx⟩ : ∃ x, (toGr i L Z).Z s j = x := ⟨_, rfl⟩
              have hxn : x < i := by rw [← hzx]; exact HRG.out s hsm j hlj
              have d0 := ((HR3.out s hsm).2 j hlj).2
              rw [hzx] at d0
              have d1 := (HB3.out x hxn).1
              have hbx := (HB3.out x hxn).2
              have hnl : 0 ≤ B x → ¬ B x < (k : Int) - 1 := fun h0 => by
                have := HBF.out.first HV.out.ok hsm HGI.out (j := j) hlj (by rw [hzx]; exact h0)
                rw [hzx] at this
                exact this
              clear hzx
              generalize B x = bx at *
              by_cases k0 : 0 ≤ bx
              · have k0' : decide (0 ≤ bx) = true := by simp; exact k0
                have k1' : decide (bx < (k : Int) - 1) = false := by have := hnl k0; simp; omega
                clear hnl
                go_wp2
                go_roundg (L s - (j + 1))
                case measure => omega
                case rel => exact ⟨j + 1, by omega, rfl, by go_num, rfl⟩
              · have k0' : decide (0 ≤ bx) = false := by simp; omega
                clear hnl
                go_wp2
                go_roundg (L s - (j + 1))
                case measure => omega
                case rel => exact ⟨j + 1, by omega, rfl, by go_num, rfl⟩
            · go_wp2
              go_loopg [23, 24, 25, 26, 27, 28] k (fun gk ii q1 q2 q3 q4 q5 wr => ∃ t : Nat, t + 1 ≤ k ∧ gk = k - t ∧ ii = .int .i64 ((t : Int) + 1) ∧ w3 = wr)
              case atStart => exact ⟨0, by omega, rfl, rfl, rfl⟩
              case round =>
                obtain ⟨t, ht, rfl, rfl, rfl⟩ := hrel
                by_cases hlt : t + 1 < k
                · have hlt' : (t : Int) + 1 < (k : Int) := by omega
                  have hA0 : A t < i := HA.out.lt t (by omega)
                  have hA1 : A (t + 1) < i := HA.out.lt (t + 1) hlt
                  have p0 := HP3.out t (by omega)
                  have p1 := HP3.out (t + 1) hlt
                  have hed := HA.out.arc t hlt
                  have hL0 : 0 < L (A t) := by
                    obtain ⟨j, hj, _⟩ := hed
                    have hj' : j < L (A t) := hj
                    omega
                  have hLb : L (A t) ≤ 1048576 := HLB.out _ hA0
                  obtain ⟨r0, hents⟩ := HR3.out (A t) hA0
                  have H24 : Hid (Calls Try.prog 24 #[.slice (some ⟨rb (A t), ro (A t), none⟩) (L (A t)) (C (A t)), .int .i64 (A (t + 1))] w3 fun e w' => e = .returned (.bool true) ∧ w' = w3) := by
                    refine (hasArc (some ⟨rb (A t), ro (A t), none⟩) (L (A t)) (C (A t)) (rb (A t)) (ro (A t)) ((toGr i L Z).Z (A t)) (A (t + 1)) w3 hLb (fun j hj => ⟨rfl, (hents j hj).2⟩)).mono ?_
                    rintro e w' ⟨⟨bb, rfl, hbb⟩, rfl⟩
                    have : bb = true := hbb.2 hed
                    exact ⟨by rw [this], rfl⟩
                  rw [(hents 0 hL0).1] at r0
                  have HEN : Hid (∀ j, j < L (A t) → w3.cell? ⟨rb (A t), ro (A t) + j, none⟩ = some (.int .i64 ((toGr i L Z).Z (A t) j)) ∧ (toGr i L Z).Z (A t) j < i) := fun j hj => ⟨(hents j hj).2, HRG.out _ hA0 j hj⟩
                  have HLW : Hid (∀ j, j < L (A t) → (toGr i L Z).Z (A t) j < A (t + 1) → 0 ≤ B ((toGr i L Z).Z (A t) j) → ¬ B ((toGr i L Z).Z (A t) j) ≤ (k : Int) - (t + 1)) := fun j hj h1 h2 => HBF.out.lower HV.out.ok hsm HD.out HGI.out HA.out hlt hj h1 h2
                  have d1 := (HB3.out (A (t + 1)) hA1).1
                  have hbc : B (A (t + 1)) = (k : Int) - (t + 1) := by
                    have h := HBF.out.ex (A (t + 1)) hA1 (k - (t + 1)) (by rw [HA.out.dist t hlt]; omega) (by omega)
                    rw [h]; omega
                  rw [hbc] at d1
                  clear hbc hents hed
                  generalize (toGr i L Z).Z (A t) = zt at *
                  generalize A (t + 1) = cu at *
                  generalize A t = pv at *
                  have hself : ((k : Int) - ((t : Int) + 1) == (k : Int) - ((t : Int) + 1)) = true := by simp
                  go_wp2_with fail
                  refine H24.out.mono ?_
                  rintro e w9 ⟨rfl, rfl⟩
                  clear H24
                  go_wp2
                  go_loopg [27, 28] (L pv) (fun gk ij iw wr => ∃ j : Nat, j ≤ L pv ∧ gk = L pv - j ∧ ij = .int .i64 j ∧ w9 = wr)
                  case atStart => exact ⟨0, Nat.zero_le _, rfl, rfl, rfl⟩
                  case round =>
                    obtain ⟨j, hj, rfl, rfl, rfl⟩ := hrel
                    clear p0 p1 r0 d1
                    by_cases hlj : j < L pv
                    · obtain ⟨d0, hz⟩ := HEN.out j hlj
                      have hlw := HLW.out j hlj
                      generalize zt j = x at *
                      have hlj' : decide ((j : Int) < (L pv : Int)) = true := by simp; exact hlj
                      by_cases hxc : x < cu
                      · have hxc' : decide ((x : Int) < (cu : Int)) = true := by simp; exact hxc
                        have d1 := (HB3.out x hz).1
                        have hbx := (HB3.out x hz).2
                        have hlw' := hlw hxc
                        clear hlw
                        generalize B x = bx at *
                        by_cases k0 : 0 ≤ bx
                        · have k0' : decide (0 ≤ bx) = true := by simp; exact k0
                          have k1' : decide (bx ≤ (k : Int) - ((t : Int) + 1)) = false := by have := hlw' k0; simp; omega
                          clear hlw'
                          go_wp2
                          go_roundg (L pv - (j + 1))
                          case measure => omega
                          case rel => exact ⟨j + 1, by omega, rfl, by go_num, rfl⟩
                        · have k0' : decide (0 ≤ bx) = false := by simp; omega
                          clear hlw'
                          go_wp2
                          go_roundg (L pv - (j + 1))
                          case measure => omega
                          case rel => exact ⟨j + 1, by omega, rfl, by go_num, rfl⟩
                      · have hxc' : decide ((x : Int) < (cu : Int)) = false := by simp; omega
                        clear hlw
                        go_wp2
                        go_roundg (k - (t + 1))
                        case measure => omega
                        case rel => exact ⟨t + 1, by omega, rfl, by go_num, rfl⟩
                    · have hlj' : decide ((j : Int) < (L pv : Int)) = false := by simp; omega
                      go_wp2
                      go_roundg (k - (t + 1))
                      case measure => omega
                      case rel => exact ⟨t + 1, by omega, rfl, by go_num, rfl⟩
                · obtain rfl : k = t + 1 := by omega
                  have hA0 : A t < i := HA.out.lt t (by omega)
                  have p0 := HP3.out t (by omega)
                  have hed : Edge (toGr i L Z) (A t) s := HA.out.cl
                  have hL0 : 0 < L (A t) := by
                    obtain ⟨j, hj, _⟩ := hed
                    have hj' : j < L (A t) := hj
                    omega
                  have hLb : L (A t) ≤ 1048576 := HLB.out _ hA0
                  obtain ⟨r0, hents⟩ := HR3.out (A t) hA0
                  have H24 : Hid (Calls Try.prog 24 #[.slice (some ⟨rb (A t), ro (A t), none⟩) (L (A t)) (C (A t)), .int .i64 s] w3 fun e w' => e = .returned (.bool true) ∧ w' = w3) := by
                    refine (hasArc (some ⟨rb (A t), ro (A t), none⟩) (L (A t)) (C (A t)) (rb (A t)) (ro (A t)) ((toGr i L Z).Z (A t)) s w3 hLb (fun j hj => ⟨rfl, (hents j hj).2⟩)).mono ?_
                    rintro e w' ⟨⟨bb, rfl, hbb⟩, rfl⟩
                    have : bb = true := hbb.2 hed
                    exact ⟨by rw [this], rfl⟩
                  rw [(hents 0 hL0).1] at r0
                  clear hents hed
                  generalize A t = pv at *
                  go_wp2_with fail
                  refine H24.out.mono ?_
                  rintro e w9 ⟨rfl, rfl⟩
                  clear H24
                  go_wp2
                  go_ret
                  exact ⟨rfl, HS3.out⟩
end Go.Proofs.Qxb6600028a
