import Derived.Test.Qxb6600028aKahnMem
namespace Go.Proofs.Qxb6600028a
open Go.RowKit Go.Deep

/-- What zzKahnDone hands back. -/
def RetK (g : Gr) (n B : Nat) (w' : World) (e : Ending) : Prop := ∃ don, e = .returned (.slice (some ⟨B, 0, none⟩) n n) ∧ KahnOk g don ∧ w'.rowIs B 4 n (fun j => .bool (don j))

set_option maxRecDepth 100000 in
set_option maxHeartbeats 2000000 in
theorem kahn (sv : Value) (g : Gr) (w : World) (ok : GOk g) (hn : g.n ≤ 1048576) (hsum : sumTo g.L g.n ≤ 1048576)
    (hS : RowsI w sv g.n g.L (fun u j => (g.Z u j : Int))) :
    Calls Try.prog 19 #[sv] w fun e w' => RetK g g.n (w.heap.size + 1) w' e ∧ w.Since w.heap.size w' := by
  obtain ⟨n, hgn⟩ : ∃ n, g.n = n := ⟨_, rfl⟩
  have HG : Hid (g.n = n) := hgn
  have HOK : Hid (GOk g) := ok
  have hLb : ∀ u, u < n → g.L u ≤ 1048576 := fun u hu => Nat.le_trans (sumTo_term (f := g.L) (show u < g.n by omega)) hsum
  have hzn : ∀ u, u < n → ∀ j, j < g.L u → g.Z u j < n := fun u hu j hj => by have := (ok.rng u (by omega) j hj).1; omega
  rw [hgn] at hn hS ⊢
  have HSum : Hid (sumTo g.L g.n ≤ 1048576) := hsum
  clear hgn hsum ok
  obtain ⟨so, sb, s0, sc, R, C, rb, ro, rfl, hs⟩ := hS
  have hmk := run_make_row' (P := Try.prog) 22 3 (.int .i64 0) 8 Try.underlying22 Try.info3 rfl .i64 .i64 n (by omega) (by omega)
  go_enter Try.func19, Try.ntmps19
  go_wp2
  clear hmk
  -- the in-degrees
  go_loopg [5] n (fun gk i wr => ∃ u : Nat, u ≤ n ∧ gk = n - u ∧ i = .int .i64 u ∧ wr.heap.size = w.heap.size + 1 ∧ KM1 w wr n (fun v => degAt g u 0 v))
  case atStart => exact ⟨0, Nat.zero_le _, rfl, rfl, by simp, (KM1.start w n).congr (fun _ _ => rfl)⟩
  case round =>
    obtain ⟨u, hu, rfl, rfl, hsz, hM⟩ := hrel
    by_cases hlu : u < n
    · obtain ⟨rfl, hrow, hents⟩ := hs u hlu
      have hLu := hLb u hlu
      have hzu := hzn u hlu
      have g0 : wr.cell? ⟨sb, s0 + u, none⟩ = some (.slice (R u) (g.L u) (C u)) := by rw [hM.since.cell (a := ⟨sb, s0 + u, none⟩) (World.block_lt_of_cell? _ _ hrow)]; exact hrow
      clear hrow hs hLb hzn
      rcases Nat.eq_zero_or_pos (g.L u) with hz | hp
      · rw [hz] at g0
        clear hents hLu
        go_wp2
        refine wp_loop_rounds 1 ?_
        rw [rounds_succ]
        go_wp2
        go_roundg (n - (u + 1))
        case measure => omega
        case rel => exact ⟨u + 1, by omega, rfl, by go_num, hsz, hM.congr (fun v _ => by rw [← degAt_row, hz])⟩
      · rw [(hents 0 hp).1] at g0
        have hents' : ∀ j, j < g.L u → w.cell? ⟨rb u, ro u + j, none⟩ = some (.int .i64 (g.Z u j)) := fun j hj => (hents j hj).2
        clear hents
        go_wp2
        clear g0
        go_loopg [7] (g.L u) (fun gk i wr => ∃ j : Nat, j ≤ g.L u ∧ gk = g.L u - j ∧ i = .int .i64 j ∧ wr.heap.size = w.heap.size + 1 ∧ KM1 w wr n (fun v => degAt g u j v))
        case atStart => exact ⟨0, by omega, rfl, rfl, hsz, hM⟩
        case round =>
          clear hM hsz
          obtain ⟨j, hj, rfl, rfl, hsz, hM⟩ := hrel
          by_cases hlj : j < g.L u
          · have hx := hzu j hlj
            have hdb := degAt_le g (u := u) (j := j) (by rw [HG.out]; exact hlu) hj (g.Z u j)
            have hSm := HSum.out
            have hdb' : degAt g u j (g.Z u j) ≤ 1048576 := by omega
            have h0 := hents' j hlj
            have g0 : wr.cell? ⟨rb u, ro u + j, none⟩ = some (.int .i64 (g.Z u j)) := by rw [hM.since.cell (a := ⟨rb u, ro u + j, none⟩) (World.block_lt_of_cell? _ _ h0)]; exact h0
            have g1 : wr.cell? ⟨w.heap.size, g.Z u j, none⟩ = some (.int .i64 (degAt g u j (g.Z u j))) := hM.dg.cell hx
            have g2 : wr.frozen? ⟨w.heap.size, g.Z u j, none⟩ = false := hM.dg.frozen _
            have HM : Hid (KM1 w (wr.setCell ⟨w.heap.size, g.Z u j, none⟩ (.int .i64 ((degAt g u j (g.Z u j) : Int) + 1))) n (fun v => degAt g u (j + 1) v)) :=
              (hM.set (g.Z u j) _).congr (fun v _ => by rw [degAt_arc g u j _ v rfl]; unfold upd; split <;> rfl)
            clear hdb hSm h0 hents' hzu hM
            generalize hzx : g.Z u j = x at *
            generalize hdx : degAt g u j x = d at *
            clear hzx hdx
            go_wp2
            go_roundg (g.L u - (j + 1))
            case measure => omega
            case rel => exact ⟨j + 1, by omega, rfl, by go_num, by simpa using hsz, HM.out⟩
          · go_wp2
            go_roundg (n - (u + 1))
            case measure => omega
            case rel => exact ⟨u + 1, by omega, rfl, by go_num, hsz, hM.congr (fun v _ => by rw [← degAt_row, show j = g.L u by omega])⟩
    · obtain rfl : u = n := by omega
      have HR : Hid (∀ v, v < u → so = some ⟨sb, s0, none⟩ ∧ w.cell? ⟨sb, s0 + v, none⟩ = some (.slice (R v) (g.L v) (C v)) ∧ ∀ j, j < g.L v → R v = some ⟨rb v, ro v, none⟩ ∧ w.cell? ⟨rb v, ro v + j, none⟩ = some (.int .i64 (g.Z v j))) := hs
      have HLb : Hid (∀ v, v < u → g.L v ≤ 1048576) := hLb
      have HZn : Hid (∀ v, v < u → ∀ j, j < g.L v → g.Z v j < u) := hzn
      clear hs hLb hzn
      have hmk4 := run_make_row' (P := Try.prog) 34 4 (.bool false) 1 Try.underlying34 Try.info4 rfl .i64 .i64 u (by omega) (by omega)
      have hmk0 := make0 u hn
      obtain ⟨i3, hi3, hz30, hz31, hz32⟩ := info_parts Try.info3
      go_wp2
      clear hmk4 hmk0
      have hM0 := KM.start hM hsz hn
      clear hM
      -- the first queue
      go_loopg [9, 10] u (fun gk vQ i wr => ∃ (k : Nat) (Q : List Nat), k ≤ u ∧ gk = u - k ∧ i = .int .i64 k ∧ Hid ((∀ x, x ∈ Q ↔ x < k ∧ (degAt g u 0 x : Int) = 0) ∧ Q.Nodup) ∧ KM w wr u (fun v => degAt g u 0 v) (fun _ => false) Q vQ)
      case atStart => exact ⟨0, [], Nat.zero_le _, rfl, rfl, ⟨fun x => by simp, by simp⟩, hM0⟩
      case round =>
        clear hM0
        obtain ⟨k, Q, hk, rfl, rfl, hH, hM⟩ := hrel
        by_cases hlk : k < u
        · have hqb : Q.length ≤ u := pigeon u Q hH.out.2 (fun x hx => by have := ((hH.out.1 x).1 hx).1; omega)
          have hwz := hM.dn.lt
          have g1 : wr.cell? ⟨w.heap.size, k, none⟩ = some (.int .i64 (degAt g u 0 k)) := hM.dg.cell hlk
          by_cases hd : (degAt g u 0 k : Int) = 0
          · have hd' : ((degAt g u 0 k : Int) == 0) = true := by simpa using hd
            have HD : Hid ((degAt g u 0 k : Int) = 0) := hd
            clear hd
            have HM : Hid (KM w wr u (fun v => degAt g u 0 v) (fun _ => false) Q u9) := hM
            clear hM
            go_wp2_with (at_builtin; refine wpList_append_own _ rfl (.tmp 58) (.tmp 60) 22 rfl (w.heap.size + 2) 3 i3 (.int .i64 0) 1 8 Try.underlying22 hi3 hz30 hz31 hz32 rfl (by decide) u9 Q.length (fvals Q) rfl ?qown ⟨wr.heap.size, 0, none⟩ 1 1 [.int .i64 k] rfl rfl ?qc1 ?qc2 ?qc3 ?qc4 ?qc5 ?_)
            case qown => exact (HM.out.alloc _).qu
            case qc1 => exact cells_new _ _ rfl [_] _
            case qc2 => intro z hz; simp at hz; subst hz; rfl
            case qc3 => unfold maxLen; omega
            case qc4 => omega
            case qc5 => simp; omega
            intro v1 w1 hown1 hgrow1 _
            have HM1 : Hid (KM w w1 u (fun v => degAt g u 0 v) (fun _ => false) (Q ++ [k]) v1) := (HM.out.alloc _).app hown1 hgrow1
            clear hown1 hgrow1 HM g1
            go_wp2
            go_roundg (u - (k + 1))
            case measure => omega
            case rel =>
              refine ⟨k + 1, Q ++ [k], by omega, rfl, by go_num, ⟨fun x => ?_, ?_⟩, HM1.out⟩
              · rw [List.mem_append, hH.out.1 x]
                simp only [List.mem_cons, List.not_mem_nil, or_false]
                constructor
                · rintro (⟨h1, h2⟩ | rfl)
                  · exact ⟨by omega, h2⟩
                  · exact ⟨by omega, HD.out⟩
                · rintro ⟨h1, h2⟩
                  by_cases e : x = k
                  · exact Or.inr e
                  · exact Or.inl ⟨by omega, h2⟩
              · rw [List.nodup_append]
                refine ⟨hH.out.2, by simp, fun a ha b hb => ?_⟩
                simp at hb
                subst hb
                have := ((hH.out.1 a).1 ha).1
                omega
          · have hd' : ((degAt g u 0 k : Int) == 0) = false := by simpa using hd
            have HD : Hid (¬ (degAt g u 0 k : Int) = 0) := hd
            clear hd
            go_wp2
            go_roundg (u - (k + 1))
            case measure => omega
            case rel =>
              refine ⟨k + 1, Q, by omega, rfl, by go_num, ⟨fun x => ?_, hH.out.2⟩, hM⟩
              rw [hH.out.1 x]
              constructor
              · rintro ⟨h1, h2⟩; exact ⟨by omega, h2⟩
              · rintro ⟨h1, h2⟩
                refine ⟨?_, h2⟩
                by_cases e : x = k
                · rw [e] at h2; exact absurd h2 HD.out
                · omega
        · obtain rfl : k = u := by omega
          have HK0 : KI g [] 0 0 (fun v => degAt g k 0 v) Q := KI.start (fun v _ => by rw [HG.out]) (fun x => by rw [HG.out]; exact hH.out.1 x) hH.out.2
          clear hH
          obtain ⟨aQ, cQ, hvQ⟩ := own_form hM.qu
          rw [hvQ] at hM ⊢
          go_wp2
          -- the peeling
          go_loopg [9, 11] k (fun gk vQ i wr => ∃ (h : Nat) (Q : List Nat) (deg : Nat → Int), h ≤ Q.length ∧ Q.length ≤ k ∧ gk = k - h ∧ i = .int .i64 h ∧ Hid (KI g (Q.take h) 0 0 deg Q) ∧ KM w wr k deg (fun j => decide (j ∈ Q.take h)) Q vQ)
          case atStart => exact ⟨0, Q, _, Nat.zero_le _, by have := HK0.len; rw [HG.out] at this; exact this, rfl, rfl, HK0, hM.congr (fun j _ => by simp)⟩
          case round =>
            clear hM HK0 hvQ
            obtain ⟨h, Q, deg, hh, hQk, rfl, rfl, hK, hM⟩ := hrel
            by_cases hlh : h < Q.length
            · obtain ⟨z, hzq⟩ : ∃ z, Q[h] = z := ⟨_, rfl⟩
              obtain ⟨gq, cq, hvq, hcq⟩ := own_at hM.qu hlh
              rw [hzq] at hcq
              have htk : Q.take (h + 1) = Q.take h ++ [z] := by rw [← hzq, List.take_succ_eq_append_getElem hlh]
              have hzQ : z ∈ Q := by rw [← hzq]; exact List.getElem_mem hlh
              have hzk : z < k := by have := hK.out.mem z hzQ; rw [HG.out] at this; exact this
              have hzP : z ∉ Q.take h := fun hm => by
                have hnd := hK.out.nd
                rw [← List.take_append_drop h Q, List.nodup_append] at hnd
                refine hnd.2.2 z hm z ?_ rfl
                rw [← hzq]
                rw [List.drop_eq_getElem_cons hlh]
                exact List.mem_cons_self
              obtain ⟨hso, hrow, hents⟩ := HR.out z hzk
              have hLz := HLb.out z hzk
              have hZz := HZn.out z hzk
              have d1 : wr.cell? ⟨w.heap.size + 1, z, none⟩ = some (.bool (decide (z ∈ Q.take h))) := hM.dn.cell hzk
              have d2 : wr.frozen? ⟨w.heap.size + 1, z, none⟩ = false := hM.dn.frozen z
              have hrow' : wr.cell? ⟨sb, s0 + z, none⟩ = some (.slice (R z) (g.L z) (C z)) := by rw [hM.since.cell (a := ⟨sb, s0 + z, none⟩) (World.block_lt_of_cell? _ _ hrow)]; exact hrow
              have hsb := World.block_lt_of_cell? _ _ hrow
              have hsb' : sb < w.heap.size := hsb
              have HM1 : Hid (KM w (wr.setCell ⟨w.heap.size + 1, z, none⟩ (.bool true)) k deg (fun x => decide (x ∈ Q.take h ++ [z])) Q u9) := (hM.setDn z true).congr (fun j _ => by
                unfold upd
                by_cases e : j = z
                · subst e; simp
                · simp [e])
              have HK1 : Hid (KI g (Q.take h) z 0 deg Q ∧ Q.take (h + 1) = Q.take h ++ [z] ∧ z ∈ Q ∧ z ∉ Q.take h) := ⟨hK.out.other z, htk, hzQ, hzP⟩
              subst hso
              generalize hP : Q.take h = P at *
              have HP : Hid (∀ y, y ∈ P → y ∈ Q) := fun y hy => by rw [← hP] at hy; exact List.mem_of_mem_take hy
              generalize hdz : decide (z ∈ P) = dz at *
              clear hM hK hrow htk hzQ hzP hzq hP hdz hsb
              rw [hvq] at HM1 ⊢
              clear hvq
              rcases Nat.eq_zero_or_pos (g.L z) with hz | hp
              · rw [hz] at hrow'
                clear hents hLz hZz
                go_wp2
                refine wp_loop_rounds 1 ?_
                rw [rounds_succ]
                go_wp2
                go_roundg (k - (h + 1))
                case measure => omega
                case rel =>
                  refine ⟨h + 1, Q, deg, by omega, hQk, rfl, by go_num, ?_, ?_⟩
                  · have := HK1.out.1
                    rw [← hz] at this
                    rw [HK1.out.2.1]
                    exact this.next (by rw [HG.out]; exact hzk) HK1.out.2.2.2 0
                  · rw [HK1.out.2.1]; exact HM1.out
              · rw [(hents 0 hp).1] at hrow'
                have HE : Hid (∀ j, j < g.L z → w.cell? ⟨rb z, ro z + j, none⟩ = some (.int .i64 (g.Z z j))) := fun j hj => (hents j hj).2
                have HZz : Hid (∀ j, j < g.L z → g.Z z j < k) := hZz
                clear hents hZz
                go_wp2
                clear hrow' hcq d1 d2
                go_loopg [9, 14] (g.L z) (fun gk vQ i wr => ∃ (j : Nat) (Q' : List Nat) (deg' : Nat → Int), j ≤ g.L z ∧ gk = g.L z - j ∧ i = .int .i64 j ∧ Q'.length ≤ k ∧ h + 1 ≤ Q'.length ∧ Hid (KI g P z j deg' Q' ∧ Q'.take (h + 1) = P ++ [z] ∧ z ∈ Q' ∧ z ∉ P ∧ ∀ y, y ∈ P → y ∈ Q') ∧ KM w wr k deg' (fun x => decide (x ∈ P ++ [z])) Q' vQ)
                case atStart => exact ⟨0, Q, deg, by omega, rfl, rfl, hQk, hlh, ⟨HK1.out.1, HK1.out.2.1, HK1.out.2.2.1, HK1.out.2.2.2, HP.out⟩, HM1.out⟩
                case round =>
                  clear HM1 HK1 HP
                  obtain ⟨j, Q', deg', hj, rfl, rfl, hQ'k, hhQ, hK, hM⟩ := hrel
                  by_cases hlj : j < g.L z
                  · obtain ⟨x, hzx⟩ : ∃ x, g.Z z j = x := ⟨_, rfl⟩
                    have hxk : x < k := by rw [← hzx]; exact HZz.out j hlj
                    have h0 := HE.out j hlj
                    rw [hzx] at h0
                    have g0 : wr.cell? ⟨rb z, ro z + j, none⟩ = some (.int .i64 x) := by rw [hM.since.cell (a := ⟨rb z, ro z + j, none⟩) (World.block_lt_of_cell? _ _ h0)]; exact h0
                    have g1 : wr.cell? ⟨w.heap.size, x, none⟩ = some (.int .i64 (deg' x)) := hM.dg.cell hxk
                    have g2 : wr.frozen? ⟨w.heap.size, x, none⟩ = false := hM.dg.frozen _
                    have hd0 := hK.out.1.nonneg (v := x) (by rw [HG.out]; exact hzk) hK.out.2.2.2.1 hj (by rw [HG.out]; exact hxk)
                    have hd1 := hK.out.1.le (v := x) (by rw [HG.out]; exact hxk)
                    have hd2 := HSum.out
                    have hd3 : deg' x ≤ 1048576 := by omega
                    have HM : Hid (KM w (wr.setCell ⟨w.heap.size, x, none⟩ (.int .i64 (deg' x - 1))) k (upd deg' x (deg' x - 1)) (fun x => decide (x ∈ P ++ [z])) Q' u9) := hM.setDg x _
                    have hwz := hM.dn.lt
                    have HZX : Hid (g.Z z j = x) := hzx
                    clear h0 hM hd1 hd2 hzx
                    by_cases hd : deg' x - 1 = 0
                    · have hd' : (deg' x - 1 == 0) = true := by simpa using hd
                      have HD : Hid (deg' x - 1 = 0) := hd
                      clear hd
                      generalize hdx : deg' x = dx at *
                      have HDX : Hid (deg' x = dx) := hdx
                      clear hdx
                      go_wp2_with (at_builtin; refine wpList_append_own _ rfl (.tmp 100) (.tmp 102) 22 rfl (w.heap.size + 2) 3 i3 (.int .i64 0) 1 8 Try.underlying22 hi3 hz30 hz31 hz32 rfl (by decide) u9 Q'.length (fvals Q') rfl ?qown ⟨wr.heap.size, 0, none⟩ 1 1 [.int .i64 x] rfl rfl ?qc1 ?qc2 ?qc3 ?qc4 ?qc5 ?_)
                      case qown => exact (HM.out.alloc _).qu
                      case qc1 => exact cells_new _ _ (by simp) [_] _
                      case qc2 => intro y hy; simp at hy; subst hy; rfl
                      case qc3 => unfold maxLen; omega
                      case qc4 => omega
                      case qc5 => simp; omega
                      intro v1 w1 hown1 hgrow1 _
                      have HM1 : Hid (KM w w1 k (upd deg' x (dx - 1)) (fun x => decide (x ∈ P ++ [z])) (Q' ++ [x]) v1) := (HM.out.alloc _).app hown1 hgrow1
                      clear hown1 hgrow1 HM g0 g1 g2
                      go_wp2
                      go_roundg (g.L z - (j + 1))
                      case measure => omega
                      case rel =>
                        have hf := hK.out.1.free (by rw [HG.out]; exact hzk) hK.out.2.2.2.1 hK.out.2.2.2.2 hK.out.2.2.1 hlj HZX.out (by rw [HG.out]; exact hxk) (by rw [HDX.out]; exact HD.out)
                        rw [HDX.out] at hf
                        refine ⟨j + 1, Q' ++ [x], upd deg' x (dx - 1), by omega, rfl, by go_num, by have := hf.1.len; rw [HG.out] at this; exact this, by rw [List.length_append]; omega, ⟨hf.1, ?_, List.mem_append.2 (Or.inl hK.out.2.2.1), hK.out.2.2.2.1, fun y hy => List.mem_append.2 (Or.inl (hK.out.2.2.2.2 y hy))⟩, HM1.out⟩
                        rw [List.take_append_of_le_length hhQ]; exact hK.out.2.1
                    · have hd' : (deg' x - 1 == 0) = false := by simpa using hd
                      have HD : Hid (¬ deg' x - 1 = 0) := hd
                      clear hd
                      generalize hdx : deg' x = dx at *
                      have HDX : Hid (deg' x = dx) := hdx
                      clear hdx
                      go_wp2
                      go_roundg (g.L z - (j + 1))
                      case measure => omega
                      case rel =>
                        have hf := hK.out.1.keep (by rw [HG.out]; exact hzk) hK.out.2.2.2.1 hlj HZX.out (by rw [HG.out]; exact hxk) (by rw [HDX.out]; exact HD.out)
                        rw [HDX.out] at hf
                        exact ⟨j + 1, Q', upd deg' x (dx - 1), by omega, rfl, by go_num, hQ'k, hhQ, ⟨hf, hK.out.2⟩, HM.out⟩
                  · have hjL : j = g.L z := by omega
                    have hK' := hK.out.1
                    rw [hjL] at hK'
                    have HK2 : Hid (KI g (P ++ [z]) 0 0 deg' Q') := hK'.next (by rw [HG.out]; exact hzk) hK.out.2.2.2.1 0
                    clear hK' hjL
                    go_wp2
                    go_roundg (k - (h + 1))
                    case measure => omega
                    case rel =>
                      refine ⟨h + 1, Q', deg', hhQ, hQ'k, rfl, by go_num, ?_, ?_⟩
                      · rw [hK.out.2.1]; exact HK2.out
                      · rw [hK.out.2.1]; exact hM
            · obtain ⟨aQ, cQ, rfl⟩ := own_form hM.qu
              go_wp2
              go_ret
              have e : Q.take h = Q := List.take_of_length_le (by omega)
              have hK' := hK.out
              rw [e] at hK'
              refine ⟨⟨_, rfl, hK'.final HOK.out _ (fun v _ => ?_), hM.dn⟩, hM.since⟩
              rw [e]; simp
end Go.Proofs.Qxb6600028a
