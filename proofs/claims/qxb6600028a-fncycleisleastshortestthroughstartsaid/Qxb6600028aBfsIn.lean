import Derived.Test.Qxb6600028aQueue
namespace Go.Proofs.Qxb6600028a
open Go.RowKit Go.Deep

/-- What Cycle's search keeps in its slots. -/
structure FS (f f' : Nat → Value) : Prop where
  s1 : f' 1 = f 1
  s3 : f' 3 = f 3
  s4 : f' 4 = f 4
  s9 : f' 9 = f 9

/-- Behind the inner loop at u. -/
def XI (wc : World) (n s : Nat) (W N : Nat → Nat → Prop) (P : List Nat) (u : Nat) (gp : Gr) (f : Nat → Value) (a' : Act) (w' : World) : Prop :=
  a'.tmps.size = 184 ∧ a'.defers = [] ∧ FS f (slot a') ∧ ∃ D T g off cap, slot a' 11 = .slice (some ⟨g, off, none⟩) T.length cap ∧ BC n s W N D P u T (fun z => ∃ i, i < gp.L u ∧ gp.Z u i = z) ∧ (∀ y, y < n → D y ≤ P.length + 1) ∧ CM wc w' n D T g off cap

set_option maxRecDepth 100000 in
set_option maxHeartbeats 2000000 in
theorem bfs_inner (wc : World) (gp : Gr) (n s : Nat) (W N : Nat → Nat → Prop) (hW : WN n s W N) (P : List Nat) (u : Nat) (hn : n ≤ 1048576) (hLu : gp.L u ≤ 1048576) (hN : ∀ i, i < gp.L u → N u (gp.Z u i))
    (Ru : Option Addr) (Cu rbu rou : Nat) (hents : ∀ j, j < gp.L u → Ru = some ⟨rbu, rou, none⟩ ∧ wc.cell? ⟨rbu, rou + j, none⟩ = some (.int .i64 (gp.Z u j))) (f : Nat → Value) (w0 : World)
    (h9 : f 9 = .slice (some ⟨wc.heap.size, 0, none⟩) n n) (D0 : Nat → Int) (T0 : List Nat) (g0 off0 cap0 : Nat) (h11 : f 11 = .slice (some ⟨g0, off0, none⟩) T0.length cap0) (h12 : f 12 = .int .i64 u) (h86 : f 86 = .slice Ru (gp.L u) Cu) (h87 : f 87 = .int .i64 (gp.L u)) (h88 : f 88 = .int .i64 0)
    (hB : BC n s W N D0 P u T0 (fun _ => False)) (hDb : ∀ y, y < n → D0 y ≤ P.length) (hM : CM wc w0 n D0 T0 g0 off0 cap0) :
    Code.wp Try.prog (Code.loop ((loops (Try.f22.body.getD .skip))[4]?.getD .skip)) (QX 8 (XI wc n s W N P u gp f)) (mkA 184 f) w0 := by
  conv => arg 2; arg 1; whnf
  have H9 : Hid (f 9 = .slice (some ⟨wc.heap.size, 0, none⟩) n n) := h9
  have HN : Hid (∀ i, i < gp.L u → N u (gp.Z u i)) := hN
  have HW : Hid (WN n s W N) := hW
  have HDb : Hid (∀ y, y < n → D0 y ≤ P.length) := hDb
  have hPl : P.length ≤ 1048576 := by have := hB.len; omega
  rw [mkA_184, h9, h11, h12, h86, h87, h88]
  clear h9 h12 h86 h87 h88 hN hW hDb
  dsimp only
  rcases Nat.eq_zero_or_pos (gp.L u) with hz | hp
  · have H11 : Hid (f 11 = .slice (some ⟨g0, off0, none⟩) T0.length cap0) := h11
    clear h11 hents
    rw [hz]
    refine wp_loop_rounds 1 ?_
    rw [rounds_succ]
    go_wp2
    refine ⟨rfl, rfl, rfl, ⟨rfl, rfl, rfl, H9.out.symm⟩, D0, T0, g0, off0, cap0, rfl, ?_, fun y hy => by have := HDb.out y hy; omega, hM⟩
    obtain ⟨a1, a2, a3, a4, a5, a6, a7, a8, a9, a10, a11⟩ := hB
    exact ⟨a1, a2, a3, a4, a5, a6, fun y hy ⟨i, hi, _⟩ => by omega, a8, a9, a10, a11⟩
  · rw [(hents 0 hp).1]
    have HE : Hid (∀ j, j < gp.L u → wc.cell? ⟨rbu, rou + j, none⟩ = some (.int .i64 (gp.Z u j))) := fun j hj => (hents j hj).2
    obtain ⟨i3, hi3, hz30, hz31, hz32⟩ := info_parts Try.info3
    clear hents h11
    go_loopg [11, 88] (gp.L u) (fun gk vq i wr => ∃ (j : Nat) (D : Nat → Int) (T : List Nat) (g off cap : Nat), j ≤ gp.L u ∧ gk = gp.L u - j ∧ i = .int .i64 j ∧ vq = .slice (some ⟨g, off, none⟩) T.length cap ∧ Hid (BC n s W N D P u T (fun z => ∃ i, i < j ∧ gp.Z u i = z) ∧ (∀ y, y < n → D y ≤ P.length + 1) ∧ D u ≤ P.length) ∧ CM wc wr n D T g off cap)
    case atStart =>
      refine ⟨0, D0, T0, g0, off0, cap0, by omega, rfl, rfl, rfl, ⟨?_, fun y hy => by have := HDb.out y hy; omega, HDb.out u hB.curr.1⟩, hM⟩
      obtain ⟨a1, a2, a3, a4, a5, a6, a7, a8, a9, a10, a11⟩ := hB
      exact ⟨a1, a2, a3, a4, a5, a6, fun y hy ⟨i, hi, _⟩ => by omega, a8, a9, a10, a11⟩
    case round =>
      clear hM hB HDb
      obtain ⟨j, D, T, g, off, cap, hj, rfl, rfl, rfl, hB, hM⟩ := hrel
      by_cases hlj : j < gp.L u
      · obtain ⟨x, hzx⟩ : ∃ x, gp.Z u j = x := ⟨_, rfl⟩
        have hun := hB.out.1.curr.1
        have hNx : N u x := by rw [← hzx]; exact HN.out j hlj
        have hxn : x < n := HW.out.rng u x hun hNx
        have h0 := HE.out j hlj
        rw [hzx] at h0
        have c0 : wr.cell? ⟨rbu, rou + j, none⟩ = some (.int .i64 x) := by rw [hM.since.cell (a := ⟨rbu, rou + j, none⟩) (World.block_lt_of_cell? _ _ h0)]; exact h0
        have c1 : wr.cell? ⟨wc.heap.size, x, none⟩ = some (.int .i64 (D x)) := hM.ds.cell hxn
        have c2 : wr.frozen? ⟨wc.heap.size, x, none⟩ = false := hM.ds.frozen x
        have HZX : Hid (gp.Z u j = x) := hzx
        have hext : ∀ D' T', BC n s W N D' P u T' (fun z => (∃ i, i < j ∧ gp.Z u i = z) ∨ z = x) → BC n s W N D' P u T' (fun z => ∃ i, i < j + 1 ∧ gp.Z u i = z) := fun D' T' hb => by
          obtain ⟨a1, a2, a3, a4, a5, a6, a7, a8, a9, a10, a11⟩ := hb
          refine ⟨a1, a2, a3, a4, a5, a6, fun y hy ⟨i, hi, hz⟩ => a7 y hy ?_, a8, a9, a10, a11⟩
          by_cases e : i = j
          · right; rw [← hz, e, hzx]
          · exact Or.inl ⟨i, by omega, hz⟩
        have HEX : Hid (∀ D' T', BC n s W N D' P u T' (fun z => (∃ i, i < j ∧ gp.Z u i = z) ∨ z = x) → BC n s W N D' P u T' (fun z => ∃ i, i < j + 1 ∧ gp.Z u i = z)) := hext
        clear h0 hzx hext
        by_cases hd : D x < 0
        · have c3 : wr.cell? ⟨wc.heap.size, u, none⟩ = some (.int .i64 (D u)) := hM.ds.cell hun
          have hdu0 := hB.out.1.curr.2
          have hdu1 := hB.out.2.2
          have hdu2 : D u ≤ 1048576 := by omega
          have hTl : T.length ≤ 1048576 := by have := hB.out.1.len; omega
          have HB2 : Hid (BC n s W N (upd D x (D u + 1)) P u (T ++ [x]) (fun z => ∃ i, i < j + 1 ∧ gp.Z u i = z)) := HEX.out _ _ (hB.out.1.add HW.out hxn hd hNx)
          have HM : Hid (CM wc (wr.setCell ⟨wc.heap.size, x, none⟩ (.int .i64 (D u + 1))) n (upd D x (D u + 1)) T g off cap) := hM.set x _
          have hwz := hM.ds.lt
          have HUX : Hid (u ≠ x) := fun e => by rw [e] at hdu0; omega
          clear hM
          generalize hDx : D x = dx at *
          generalize hDu : D u = du at *
          have HDu : Hid (D u = du) := hDu
          clear hDx hDu
          go_wp2_with (at_builtin; refine wpList_append_q _ rfl (.tmp 105) (.tmp 107) 22 rfl i3 Try.underlying22 hi3 hz30 hz31 hz32 (wc.heap.size + 1) g off cap T T.length rfl rfl ?qown ⟨wr.heap.size, 0, none⟩ 1 x rfl ?qc1 ?qc3 ?_)
          case qown => exact (HM.out.alloc _).qu
          case qc1 => exact cells_new _ _ (by simp) [_] _
          case qc3 => omega
          intro g' off' cap' w1 hq1 hgrow1
          have HM1 : Hid (CM wc w1 n (upd D x (du + 1)) (T ++ [x]) g' off' cap') := (HM.out.alloc _).app hq1 hgrow1
          clear hq1 hgrow1 HM c0 c1 c2 c3
          go_wp2
          go_roundg (gp.L u - (j + 1))
          case measure => omega
          case rel =>
            refine ⟨j + 1, upd D x (du + 1), T ++ [x], g', off', cap', by omega, rfl, by go_num, by rw [List.length_append]; rfl, ⟨HB2.out, fun y hy => ?_, ?_⟩, HM1.out⟩
            · have h1 := hB.out.2.1 y hy
              have h2 := HDu.out
              by_cases e : y = x
              · rw [e, upd_same]; omega
              · rw [upd_ne _ _ _ e]; exact h1
            · rw [upd_ne _ _ _ HUX.out, HDu.out]; exact hdu1
        · have HB2 : Hid (BC n s W N D P u T (fun z => ∃ i, i < j + 1 ∧ gp.Z u i = z)) := HEX.out _ _ (hB.out.1.skip (y := x) (by omega))
          generalize hDx : D x = dx at *
          clear hDx
          go_wp2
          go_roundg (gp.L u - (j + 1))
          case measure => omega
          case rel => exact ⟨j + 1, D, T, g, off, cap, by omega, rfl, by go_num, rfl, ⟨HB2.out, hB.out.2⟩, hM⟩
      · go_wp2
        have e : j = gp.L u := by omega
        have hb := hB.out
        rw [e] at hb
        exact ⟨rfl, rfl, rfl, ⟨rfl, rfl, rfl, H9.out.symm⟩, D, T, g, off, cap, rfl, hb.1, hb.2.1, hM⟩
end Go.Proofs.Qxb6600028a
