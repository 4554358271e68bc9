import Derived.Test.Qxb6600028aLook
namespace Go.Proofs.Qxb6600028a
open Go.RowKit Go.Deep

/-- The distances and the whole queue. -/
structure FM (w wr : World) (n : Nat) (D : Nat → Int) (Q : List Nat) (vQ : Value) : Prop where
  since : w.Since w.heap.size wr
  ds : wr.rowIs w.heap.size 3 n (fun j => .int .i64 (D j))
  qu : wr.ownsRow (w.heap.size + 1) 3 1 vQ Q.length (fvals Q)
section
variable {w wr : World} {n : Nat} {D : Nat → Int} {Q : List Nat} {vQ : Value}
theorem FM.set (h : FM w wr n D Q vQ) (x : Nat) (c : Int) : FM w (wr.setCell ⟨w.heap.size, x, none⟩ (.int .i64 c)) n (upd D x c) Q vQ :=
  ⟨h.since.setCell (Nat.le_refl _) _, (h.ds.set x _).congr (fun j _ => upd_congr (Value.int .i64) D x c j), own_below h.qu (by show w.heap.size < _; omega) _⟩
theorem FM.alloc (h : FM w wr n D Q vQ) (o : Obj) : FM w (wr.alloc o) n D Q vQ := ⟨h.since.alloc h.since.size _, h.ds.alloc _, h.qu.alloc _⟩
theorem FM.app (h : FM w wr n D Q vQ) {w1 : World} {v' : Value} {z : Nat} (hown : w1.ownsRow (w.heap.size + 1) 3 1 v' (Q.length + 1) (fvals Q ++ [.int .i64 z])) (hg : wr.grownBy w1 vQ.ownBlock) : FM w w1 n D (Q ++ [z]) v' := by
  have hlt := h.ds.lt
  have hb : ∀ k, k < w.heap.size + 1 → w1.heap[k]? = wr.heap[k]? := fun k hk => hg.block k (by omega) (fun e => by
    have := (ownsRow_block h.qu e.symm).1
    omega)
  refine ⟨h.since.grown hg h.since.size (fun k e => by have := (ownsRow_block h.qu e).1; omega), h.ds.of_block (hb _ (by omega)), ?_⟩
  rw [fvals_snoc, List.length_append]
  exact hown
end

/-- The distances from s. -/
def FromS (g : Gr) (s : Nat) (D : Nat → Int) : Prop := DistOk g.n (fun k v => Wk g k s v) D
/-- What zzForwardDist hands back. -/
def RetF (g : Gr) (n s B : Nat) (w' : World) (e : Ending) : Prop := ∃ D, e = .returned (.slice (some ⟨B, 0, none⟩) n n) ∧ FromS g s D ∧ (∀ y, y < n → D y ≤ n) ∧ w'.rowIs B 3 n (fun j => .int .i64 (D j))

set_option maxRecDepth 100000 in
set_option maxHeartbeats 2000000 in
theorem forwardDist (sv : Value) (g : Gr) (s : Nat) (w : World) (ok : GOk g) (hn : g.n ≤ 1048576) (hLb : ∀ u, u < g.n → g.L u ≤ 1048576) (hs : s < g.n)
    (hS : RowsI w sv g.n g.L (fun u j => (g.Z u j : Int))) :
    Calls Try.prog 26 #[sv, .int .i64 s] w fun e w' => RetF g g.n s w.heap.size w' e ∧ w.Since w.heap.size w' := by
  have hW := WN.forth ok hs
  obtain ⟨n, hgn⟩ : ∃ n, g.n = n := ⟨_, rfl⟩
  have HG : Hid (g.n = n) := hgn
  rw [hgn] at hn hS hs hW hLb ⊢
  have HW : Hid (WN n s (fun k v => Wk g k s v) (fun x y => Edge g x y)) := hW
  have HLb : Hid (∀ u, u < n → g.L u ≤ 1048576) := hLb
  have HB00 : Hid (BH n s (fun k v => Wk g k s v) (fun x y => Edge g x y) (upd (fun _ => -1) s 0) [] [s]) := BH.start hW (upd_same _ _ _) (fun v _ hv => upd_ne _ _ _ hv)
  clear hgn ok hLb hW
  obtain ⟨so, sb, s0, sc, R, C, rb, ro, rfl, hS'⟩ := hS
  obtain rfl := (hS' s hs).1
  have HR : Hid (∀ v, v < n → w.cell? ⟨sb, s0 + v, none⟩ = some (.slice (R v) (g.L v) (C v)) ∧ ∀ j, j < g.L v → R v = some ⟨rb v, ro v, none⟩ ∧ w.cell? ⟨rb v, ro v + j, none⟩ = some (.int .i64 (g.Z v j))) := fun v hv => (hS' v hv).2
  clear hS'
  have hmk3 := run_make_row' (P := Try.prog) 22 3 (.int .i64 0) 8 Try.underlying22 Try.info3 rfl .i64 .i64 n (by omega) (by omega)
  have hmk0 := make0 n hn
  have HMK0 : Hid (∀ w, (Instr.makeSlice 22 (.int .i64 0) (.int .i64 (n : Int))).run Try.prog w = .ok (.slice (some ⟨w.heap.size, 0, none⟩) 0 n) (w.alloc (.cells (madeCells #[.int .i64 0] n) 3))) := hmk0
  obtain ⟨i3, hi3, hz30, hz31, hz32⟩ := info_parts Try.info3
  clear hmk0
  go_enter Try.func26, Try.ntmps26
  go_wp2
  clear hmk3
  go_loopg [7] n (fun gk i wr => ∃ k : Nat, k ≤ n ∧ gk = n - k ∧ i = .int .i64 k ∧ wr.heap.size = w.heap.size + 1 ∧ w.Since w.heap.size wr ∧ wr.rowIs w.heap.size 3 n (fun j => .int .i64 (if j < k then -1 else 0)))
  case atStart => exact ⟨0, Nat.zero_le _, rfl, rfl, by simp, (World.Since.refl _ _).alloc (Nat.le_refl _) _, (World.rowIs_made w _ n 3).congr (fun j _ => by simp)⟩
  case round =>
    obtain ⟨k, hk, rfl, rfl, hz, hsi, hrw⟩ := hrel
    by_cases hlt : k < n
    · have d1 : wr.cell? ⟨w.heap.size, k, none⟩ = some (.int .i64 0) := by simpa using hrw.cell hlt
      have d2 : wr.frozen? ⟨w.heap.size, k, none⟩ = false := hrw.frozen k
      go_wp2
      go_roundg (n - (k + 1))
      case measure => omega
      case rel =>
        refine ⟨k + 1, by omega, rfl, by go_num, by simpa using hz, hsi.setCell (Nat.le_refl _) _, (hrw.set k _).congr (fun j _ => ?_)⟩
        by_cases e : j = k
        · subst e; simp
        · rw [if_neg e]
          by_cases h : j < k
          · rw [if_pos h, if_pos (by omega)]
          · rw [if_neg h, if_neg (by omega)]
    · obtain rfl : k = n := by omega
      have hrw1 := hrw.congr (g := fun _ => .int .i64 (-1)) (fun j hj => by rw [if_pos hj])
      have d1 : wr.cell? ⟨w.heap.size, s, none⟩ = some (.int .i64 (-1)) := hrw1.cell hs
      have d2 : wr.frozen? ⟨w.heap.size, s, none⟩ = false := hrw1.frozen s
      have HM0 : Hid (FM w ((wr.setCell ⟨w.heap.size, s, none⟩ (.int .i64 0)).alloc (.cells (madeCells #[.int .i64 0] k) 3)) k (upd (fun _ => -1) s 0) [] (.slice (some ⟨wr.heap.size, 0, none⟩) 0 k)) := by
        refine ⟨(hsi.setCell (Nat.le_refl _) _).alloc (by rw [nblk_setCell, hz]; omega) _, (((hrw1.set s _).congr (fun j _ => upd_congr (Value.int .i64) (fun _ => -1) s 0 j)).alloc _), ?_⟩
        have := World.ownsRow_made (base := w.heap.size + 1) (e := 3) (size := 1) (wr.setCell ⟨w.heap.size, s, none⟩ (.int .i64 0)) (madeCells #[.int .i64 0] k) k (by rw [nblk_setCell]; omega) (by unfold maxLen; omega) (by rw [size_madeCells]; omega)
        rw [nblk_setCell] at this
        exact this
      have HHZ : Hid (wr.heap.size = w.heap.size + 1) := hz
      have hmk0 := HMK0.out
      clear hrw hrw1 hsi
      rw [hz] at HM0
      go_wp2_with (at_builtin; refine wpList_append_own _ rfl (.tmp 31) (.tmp 33) 22 rfl (w.heap.size + 1) 3 i3 (.int .i64 0) 1 8 Try.underlying22 hi3 hz30 hz31 hz32 rfl (by decide) (.slice (some ⟨w.heap.size + 1, 0, none⟩) 0 k) 0 [] rfl ?pown ⟨w.heap.size + 1 + 1, 0, none⟩ 1 1 [.int .i64 s] rfl rfl ?pc1 ?pc2 ?pc3 ?pc4 ?pc5 ?_)
      case pown => exact (HM0.out.alloc _).qu
      case pc1 => exact cells_new _ _ (by rw [nblk_alloc, nblk_setCell, HHZ.out]) [_] _
      case pc2 => intro y hy; simp at hy; subst hy; rfl
      case pc3 => unfold maxLen; omega
      case pc4 => omega
      case pc5 => simp; omega
      intro v1 w1 hown1 hgrow1 _
      have HM1 : FM w w1 k (upd (fun _ => -1) s 0) [s] v1 := (HM0.out.alloc _).app (z := s) hown1 hgrow1
      clear hown1 hgrow1 HM0 d1 d2 hmk0 HHZ hz
      go_wp2
      go_loopg [8, 9] k (fun gk vQ ih wr => ∃ (P T : List Nat) (D : Nat → Int), gk = k - P.length ∧ P.length + T.length ≤ k ∧ ih = .int .i64 P.length ∧ Hid (BH k s (fun kk v => Wk g kk s v) (fun x y => Edge g x y) D P T ∧ ∀ y, y < k → D y ≤ P.length) ∧ FM w wr k D (P ++ T) vQ)
      case atStart => exact ⟨[], [s], _, rfl, by simp; omega, rfl, ⟨HB00.out, fun y _ => by unfold upd; split <;> simp⟩, HM1⟩
      case round =>
        clear HM1 HB00
        obtain ⟨P, T, D, rfl, hPT, rfl, hB, hM⟩ := hrel
        match T with
        | [] =>
          have e0 : P ++ [] = P := List.append_nil P
          rw [e0] at hM
          obtain ⟨aQ, cQ, rfl⟩ := own_form hM.qu
          go_wp2
          go_ret
          refine ⟨⟨D, rfl, ?_, fun y hy => by have := hB.out.2 y hy; simp at hPT; omega, hM.ds⟩, hM.since⟩
          unfold FromS
          rw [HG.out]
          exact hB.out.1.final HW.out
        | u :: T =>
          have hun : u < k := hB.out.1.mem u (by simp)
          rw [List.length_cons] at hPT
          have hQl : (P ++ u :: T).length = P.length + T.length + 1 := by rw [List.length_append, List.length_cons]; omega
          obtain ⟨gq, cq, hvq, hcq⟩ := own_at hM.qu (i := P.length) (by omega)
          have hgu : (P ++ u :: T)[P.length]'(by omega) = u := by rw [List.getElem_append_right (by omega)]; simp
          rw [hgu] at hcq
          rw [hQl] at hvq
          obtain ⟨hrow, hents⟩ := HR.out u hun
          have hLu := HLb.out u hun
          have hrow' : wr.cell? ⟨sb, s0 + u, none⟩ = some (.slice (R u) (g.L u) (C u)) := by rw [hM.since.cell (a := ⟨sb, s0 + u, none⟩) (World.block_lt_of_cell? _ _ hrow)]; exact hrow
          have HBC : Hid (BC k s (fun kk v => Wk g kk s v) (fun x y => Edge g x y) D P u T (fun _ => False) ∧ ∀ y, y < k → D y ≤ P.length) := ⟨hB.out.1.pop, hB.out.2⟩
          have HM : Hid (FM w wr k D (P ++ u :: T) u8) := hM
          clear hB hM hrow hgu
          rw [hvq] at HM ⊢
          clear hvq hQl
          have h38 : (P.length : Int) < (P.length : Int) + (T.length : Int) + 1 := by omega
          rcases Nat.eq_zero_or_pos (g.L u) with hz | hp
          · rw [hz] at hrow'
            clear hents hLu
            go_wp2
            refine wp_loop_rounds 1 ?_
            rw [rounds_succ]
            go_wp2
            go_roundg (k - (P.length + 1))
            case measure => omega
            case rel =>
              have hl : (P ++ [u]).length = P.length + 1 := by rw [List.length_append]; rfl
              refine ⟨P ++ [u], T, D, by rw [hl], by rw [hl]; omega, by rw [hl]; go_num, ⟨?_, fun y hy => by have := HBC.out.2 y hy; rw [hl]; omega⟩, ?_⟩
              · exact HBC.out.1.done (fun y ⟨i, hi, _⟩ => by omega)
              · rw [List.append_assoc]; exact HM.out
          · rw [(hents 0 hp).1] at hrow'
            have HE : Hid (∀ j, j < g.L u → w.cell? ⟨rb u, ro u + j, none⟩ = some (.int .i64 (g.Z u j))) := fun j hj => (hents j hj).2
            clear hents
            go_wp2
            clear hrow' hcq
            go_loopg [8, 12] (g.L u) (fun gk vQ ij wr => ∃ (j : Nat) (T : List Nat) (D : Nat → Int), j ≤ g.L u ∧ gk = g.L u - j ∧ ij = .int .i64 j ∧ Hid (BC k s (fun kk v => Wk g kk s v) (fun x y => Edge g x y) D P u T (fun z => ∃ i, i < j ∧ g.Z u i = z) ∧ (∀ y, y < k → D y ≤ P.length + 1) ∧ D u ≤ P.length) ∧ FM w wr k D (P ++ u :: T) vQ)
            case atStart =>
              refine ⟨0, T, D, by omega, rfl, rfl, ⟨?_, fun y hy => by have := HBC.out.2 y hy; omega, HBC.out.2 u hun⟩, HM.out⟩
              obtain ⟨a1, a2, a3, a4, a5, a6, a7, a8, a9, a10, a11⟩ := HBC.out.1
              exact ⟨a1, a2, a3, a4, a5, a6, fun y hy ⟨i, hi, _⟩ => by omega, a8, a9, a10, a11⟩
            case round =>
              clear HM HBC
              obtain ⟨j, T, D, hj, rfl, rfl, hB, hM⟩ := hrel
              by_cases hlj : j < g.L u
              · obtain ⟨x, hzx⟩ : ∃ x, g.Z u j = x := ⟨_, rfl⟩
                have hNx : Edge g u x := ⟨j, hlj, hzx⟩
                have hxn : x < k := HW.out.rng u x hun hNx
                have h0 := HE.out j hlj
                rw [hzx] at h0
                have c0 : wr.cell? ⟨rb u, ro u + j, none⟩ = some (.int .i64 x) := by rw [hM.since.cell (a := ⟨rb u, ro u + j, none⟩) (World.block_lt_of_cell? _ _ h0)]; exact h0
                have c1 : wr.cell? ⟨w.heap.size, x, none⟩ = some (.int .i64 (D x)) := hM.ds.cell hxn
                have c2 : wr.frozen? ⟨w.heap.size, x, none⟩ = false := hM.ds.frozen x
                have HNX : Hid (Edge g u x) := hNx
                have HEX : Hid (∀ D' T', BC k s (fun kk v => Wk g kk s v) (fun x y => Edge g x y) D' P u T' (fun z => (∃ i, i < j ∧ g.Z u i = z) ∨ z = x) → BC k s (fun kk v => Wk g kk s v) (fun x y => Edge g x y) D' P u T' (fun z => ∃ i, i < j + 1 ∧ g.Z u i = z)) := fun D' T' hb => by
                  obtain ⟨a1, a2, a3, a4, a5, a6, a7, a8, a9, a10, a11⟩ := hb
                  refine ⟨a1, a2, a3, a4, a5, a6, fun y hy ⟨i, hi, hz⟩ => a7 y hy ?_, a8, a9, a10, a11⟩
                  by_cases e : i = j
                  · right; rw [← hz, e, hzx]
                  · exact Or.inl ⟨i, by omega, hz⟩
                clear h0 hzx hNx
                by_cases hd : D x < 0
                · have c3 : wr.cell? ⟨w.heap.size, u, none⟩ = some (.int .i64 (D u)) := hM.ds.cell hun
                  have hdu0 := hB.out.1.curr.2
                  have hdu1 := hB.out.2.2
                  have hdu2 : D u ≤ 1048576 := by omega
                  have hQl2 : (P ++ u :: T).length ≤ 1048576 := by have := hB.out.1.len; rw [List.length_append, List.length_cons]; omega
                  have HB2 : Hid (BC k s (fun kk v => Wk g kk s v) (fun x y => Edge g x y) (upd D x (D u + 1)) P u (T ++ [x]) (fun z => ∃ i, i < j + 1 ∧ g.Z u i = z)) := HEX.out _ _ (hB.out.1.add HW.out hxn hd HNX.out)
                  have HM : Hid (FM w (wr.setCell ⟨w.heap.size, x, none⟩ (.int .i64 (D u + 1))) k (upd D x (D u + 1)) (P ++ u :: T) u8) := hM.set x _
                  have hwz := hM.ds.lt
                  have HUX : Hid (u ≠ x) := fun e => by rw [e] at hdu0; omega
                  clear hM
                  generalize hDx : D x = dx at *
                  generalize hDu : D u = du at *
                  have HDu : Hid (D u = du) := hDu
                  generalize hQQ : P ++ u :: T = QQ at *
                  have HQQ : Hid (P ++ u :: T = QQ) := hQQ
                  clear hDx hDu hQQ
                  go_wp2_with (at_builtin; refine wpList_append_own _ rfl (.tmp 72) (.tmp 74) 22 rfl (w.heap.size + 1) 3 i3 (.int .i64 0) 1 8 Try.underlying22 hi3 hz30 hz31 hz32 rfl (by decide) u8 QQ.length (fvals QQ) rfl ?qown ⟨wr.heap.size, 0, none⟩ 1 1 [.int .i64 x] rfl rfl ?qc1 ?qc2 ?qc3 ?qc4 ?qc5 ?_)
                  case qown => exact (HM.out.alloc _).qu
                  case qc1 => exact cells_new _ _ (by simp) [_] _
                  case qc2 => intro y hy; simp at hy; subst hy; rfl
                  case qc3 => unfold maxLen; omega
                  case qc4 => omega
                  case qc5 => simp; omega
                  intro v2 w2 hown2 hgrow2 _
                  have HM2 : Hid (FM w w2 k (upd D x (du + 1)) (QQ ++ [x]) v2) := (HM.out.alloc _).app hown2 hgrow2
                  clear hown2 hgrow2 HM c0 c1 c2 c3
                  go_wp2
                  go_roundg (g.L u - (j + 1))
                  case measure => omega
                  case rel =>
                    refine ⟨j + 1, T ++ [x], upd D x (du + 1), by omega, rfl, by go_num, ⟨HB2.out, fun y hy => ?_, ?_⟩, ?_⟩
                    · have h1 := hB.out.2.1 y hy
                      by_cases e : y = x
                      · rw [e, upd_same]; omega
                      · rw [upd_ne _ _ _ e]; exact h1
                    · rw [upd_ne _ _ _ HUX.out, HDu.out]; exact hdu1
                    · have e : P ++ u :: (T ++ [x]) = (P ++ u :: T) ++ [x] := by simp
                      rw [e, HQQ.out]; exact HM2.out
                · have HB2 : Hid (BC k s (fun kk v => Wk g kk s v) (fun x y => Edge g x y) D P u T (fun z => ∃ i, i < j + 1 ∧ g.Z u i = z)) := HEX.out _ _ (hB.out.1.skip (y := x) (by omega))
                  generalize hDx : D x = dx at *
                  clear hDx
                  go_wp2
                  go_roundg (g.L u - (j + 1))
                  case measure => omega
                  case rel => exact ⟨j + 1, T, D, by omega, rfl, by go_num, ⟨HB2.out, hB.out.2⟩, hM⟩
              · have hjL : j = g.L u := by omega
                have hb := hB.out
                rw [hjL] at hb
                have HBD : Hid (BH k s (fun kk v => Wk g kk s v) (fun x y => Edge g x y) D (P ++ [u]) T) := hb.1.done (fun y hy => hy)
                have hlen := hb.1.len
                clear hjL hb
                go_wp2
                go_roundg (k - (P.length + 1))
                case measure => omega
                case rel =>
                  have hl : (P ++ [u]).length = P.length + 1 := by rw [List.length_append]; rfl
                  refine ⟨P ++ [u], T, D, by rw [hl], by rw [hl]; omega, by rw [hl]; go_num, ⟨HBD.out, fun y hy => by have := hB.out.2.1 y hy; rw [hl]; omega⟩, ?_⟩
                  rw [List.append_assoc]; exact hM
end Go.Proofs.Qxb6600028a
