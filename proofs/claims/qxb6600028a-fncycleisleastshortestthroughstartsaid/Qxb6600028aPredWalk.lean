import Derived.Test.Qxb6600028aPred
namespace Go.Proofs.Qxb6600028a
open Go.RowKit Go.Deep

/-- Behind the predecessors' loop. -/
def XP (wb : World) (g : Gr) (n : Nat) (f : Nat → Value) (a' : Act) (w' : World) : Prop :=
  a'.tmps.size = 184 ∧ a'.defers = [] ∧ slot a' 1 = f 1 ∧ slot a' 3 = f 3 ∧ slot a' 4 = f 4 ∧ ∃ PV pl, PM wb w' n PV pl ∧ PredI g n 0 pl

set_option maxRecDepth 100000 in
set_option maxHeartbeats 2000000 in
theorem pred_loop (wb : World) (sb s0 sc : Nat) (g : Gr) (n : Nat) (f : Nat → Value) (w0 : World) (hgn : g.n = n) (ok : GOk g) (hn : n ≤ 1048576) (hsum : sumTo g.L g.n ≤ 1048576) (R : Nat → Option Addr) (C rb ro : Nat → Nat) (hR : RowsA wb sb s0 g n R C rb ro)
    (h4 : f 4 = .slice (some ⟨wb.heap.size, 0, none⟩) n n) (h32 : f 32 = .slice (some ⟨sb, s0, none⟩) n sc) (h33 : f 33 = .int .i64 n) (h34 : f 34 = .int .i64 0) (hM0 : PM wb w0 n (fun _ => .slice none 0 0) (fun _ => [])) :
    Code.wp Try.prog (Code.loop ((loops (Try.f22.body.getD .skip))[0]?.getD .skip)) (QX 0 (XP wb g n f)) (mkA 184 f) w0 := by
  conv => arg 2; arg 1; whnf
  have HG : Hid (g.n = n) := hgn
  have HSum : Hid (sumTo g.L g.n ≤ 1048576) := hsum
  have HLb : Hid (∀ u, u < n → g.L u ≤ 1048576) := fun u hu => Nat.le_trans (sumTo_term (f := g.L) (show u < g.n by omega)) hsum
  have HZn : Hid (∀ u, u < n → ∀ j, j < g.L u → g.Z u j < n) := fun u hu j hj => by have := (ok.rng u (by omega) j hj).1; omega
  have HR : Hid (RowsA wb sb s0 g n R C rb ro) := hR
  have H4 : Hid (f 4 = .slice (some ⟨wb.heap.size, 0, none⟩) n n) := h4
  obtain ⟨i3, hi3, hz30, hz31, hz32⟩ := info_parts Try.info3
  rw [mkA_184, h4, h32, h33, h34]
  clear h4 h32 h33 h34 hR hgn ok hsum
  dsimp only
  go_loopg [34] n (fun gk i wr => ∃ (u : Nat) (PV : Nat → Value) (pl : Nat → List Nat), u ≤ n ∧ gk = n - u ∧ i = .int .i64 u ∧ Hid (PredI g u 0 pl) ∧ PM wb wr n PV pl)
  case atStart => exact ⟨0, _, _, Nat.zero_le _, rfl, rfl, PredI.start g, hM0⟩
  case round =>
    clear hM0
    obtain ⟨u, PV, pl, hu, rfl, rfl, hI, hM⟩ := hrel
    by_cases hlu : u < n
    · obtain ⟨hrow, hents⟩ := HR.out u hlu
      have hLu := HLb.out u hlu
      have g0 : wr.cell? ⟨sb, s0 + u, none⟩ = some (.slice (R u) (g.L u) (C u)) := by rw [hM.since.cell (a := ⟨sb, s0 + u, none⟩) (World.block_lt_of_cell? _ _ hrow)]; exact hrow
      clear hrow
      rcases Nat.eq_zero_or_pos (g.L u) with hz | hp
      · rw [hz] at g0
        clear hents hLu
        go_wp2
        refine wp_loop_rounds 1 ?_
        rw [rounds_succ]
        go_wp2
        go_roundg (n - (u + 1))
        case measure => omega
        case rel =>
          refine ⟨u + 1, PV, pl, by omega, rfl, by go_num, ?_, hM⟩
          have := hI.out
          rw [← hz] at this
          exact this.row
      · rw [(hents 0 hp).1] at g0
        have HE : Hid (∀ j, j < g.L u → wb.cell? ⟨rb u, ro u + j, none⟩ = some (.int .i64 (g.Z u j))) := fun j hj => (hents j hj).2
        clear hents
        go_wp2
        clear g0
        go_loopg [41] (g.L u) (fun gk i wr => ∃ (j : Nat) (PV : Nat → Value) (pl : Nat → List Nat), j ≤ g.L u ∧ gk = g.L u - j ∧ i = .int .i64 j ∧ Hid (PredI g u j pl) ∧ PM wb wr n PV pl)
        case atStart => exact ⟨0, PV, pl, by omega, rfl, rfl, hI, hM⟩
        case round =>
          clear hM hI
          obtain ⟨j, PV, pl, hj, rfl, rfl, hI, hM⟩ := hrel
          by_cases hlj : j < g.L u
          · obtain ⟨x, hzx⟩ : ∃ x, g.Z u j = x := ⟨_, rfl⟩
            have hxn : x < n := by rw [← hzx]; exact HZn.out u hlu j hlj
            have h0 := HE.out j hlj
            rw [hzx] at h0
            have c0 : wr.cell? ⟨rb u, ro u + j, none⟩ = some (.int .i64 x) := by rw [hM.since.cell (a := ⟨rb u, ro u + j, none⟩) (World.block_lt_of_cell? _ _ h0)]; exact h0
            have hlen := (hI.out x (by rw [HG.out]; exact hxn)).2
            have hdb := degAt_le g (u := u) (j := j) (by rw [HG.out]; exact hlu) hj x
            have hSm := HSum.out
            have hlb : (pl x).length ≤ 1048576 := by omega
            obtain ⟨ax, cx, hPV⟩ := own_form (hM.own x hxn)
            have c1 : wr.cell? ⟨wb.heap.size, x, none⟩ = some (.slice ax (pl x).length cx) := by rw [hM.top.cell hxn, hPV]
            have hwz := hM.top.lt
            have HM : Hid (PM wb wr n PV pl) := hM
            have HPV : Hid (PV x = .slice ax (pl x).length cx) := hPV
            have HZX : Hid (g.Z u j = x) := hzx
            clear h0 hlen hdb hSm hM hPV hzx
            go_wp2_with (at_builtin; refine wpList_append_lies _ rfl (.tmp 50) (.tmp 52) 22 rfl (wb.heap.size + 1) 3 i3 (.int .i64 0) 1 8 Try.underlying22 hi3 hz30 hz31 hz32 rfl (by decide) (.slice ax (pl x).length cx) (pl x).length (fvals (pl x)) rfl ?qown ⟨wr.heap.size, 0, none⟩ 1 1 [.int .i64 u] rfl rfl ?qc1 ?qc2 (by decide) ?qc3 ?qc4 ?qc5 (wr.heap.size + 1) ?qc6 ?_)
            case qown => rw [← HPV.out]; exact (HM.out.own x hxn).alloc _
            case qc1 => exact cells_new _ _ rfl [_] _
            case qc2 => intro y hy; simp at hy; subst hy; rfl
            case qc3 => unfold maxLen; omega
            case qc4 => omega
            case qc5 => simp; omega
            case qc6 => simp
            intro gb cb w1 hown1 hgrow1 hat hgl
            have HM1 := (HM.out.alloc (.cells #[.int .i64 u] 3)).app (x := x) (u := u) (g := gb) (cap := cb) hxn hown1 (by rw [HPV.out]; exact hgrow1) (by rw [HPV.out]; exact hat.elim Or.inl (fun h => Or.inr (by rw [h, nblk_alloc])))
            have d1 : ∃ vv, w1.cell? ⟨wb.heap.size, x, none⟩ = some vv := by
              refine ⟨PV x, ?_⟩
              have hb : w1.heap[wb.heap.size]? = (wr.alloc (.cells #[.int .i64 u] 3)).heap[wb.heap.size]? := hgrow1.block _ (by rw [nblk_alloc]; omega) (fun e => by
                have h1 := (ownsRow_block (HM.out.own x hxn) (k := wb.heap.size) (by rw [HPV.out]; exact e.symm)).1
                omega)
              exact ((HM.out.top.alloc _).of_block hb).cell hxn
            have d2 : w1.frozen? ⟨wb.heap.size, x, none⟩ = false := by
              have hb : w1.heap[wb.heap.size]? = (wr.alloc (.cells #[.int .i64 u] 3)).heap[wb.heap.size]? := hgrow1.block _ (by rw [nblk_alloc]; omega) (fun e => by
                have h1 := (ownsRow_block (HM.out.own x hxn) (k := wb.heap.size) (by rw [HPV.out]; exact e.symm)).1
                omega)
              exact ((HM.out.top.alloc _).of_block hb).frozen x
            obtain ⟨vv, d1⟩ := d1
            have HM2 : Hid (PM wb (w1.setCell ⟨wb.heap.size, x, none⟩ (.slice (some ⟨gb, 0, none⟩) ((pl x).length + 1) cb)) n (upd PV x (.slice (some ⟨gb, 0, none⟩) ((pl x).length + 1) cb)) (upd pl x (pl x ++ [u]))) := HM1
            clear HM1 hown1 hgrow1 hat HM c0 c1 hgl
            go_wp2
            go_roundg (g.L u - (j + 1))
            case measure => omega
            case rel => exact ⟨j + 1, _, _, by omega, rfl, by go_num, hI.out.arc HZX.out, HM2.out⟩
          · go_wp2
            go_roundg (n - (u + 1))
            case measure => omega
            case rel =>
              refine ⟨u + 1, PV, pl, by omega, rfl, by go_num, ?_, hM⟩
              have := hI.out
              rw [show j = g.L u by omega] at this
              exact this.row
    · go_wp2
      have e : u = n := by omega
      rw [e] at hI
      exact ⟨rfl, rfl, rfl, rfl, rfl, H4.out.symm, PV, pl, hM, hI.out⟩
end Go.Proofs.Qxb6600028a
