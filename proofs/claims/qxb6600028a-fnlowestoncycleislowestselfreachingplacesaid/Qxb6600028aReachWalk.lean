import Derived.Test.Qxb6600028aReach
namespace Go.Proofs.Qxb6600028a
open Go.RowKit Go.Deep

structure XR1 (w : World) (sv : Value) (g : Gr) (n p : Nat) (f : Nat → Value) (wr : World) : Prop where
  f0 : f 0 = sv
  f1 : f 1 = .int .i64 p
  f5 : f 5 = .slice (some ⟨w.heap.size, 0, none⟩) n n
  x : ∃ (S : List Nat) (seen : Nat → Bool), SI g p (g.L p) seen S g.n 0 ∧ uns seen n + S.length ≤ n ∧ SM w wr n seen S (f 6)

set_option maxRecDepth 100000 in
set_option maxHeartbeats 2000000 in
theorem reaches (sv : Value) (g : Gr) (p : Nat) (w : World) (ok : GOk g) (hn : g.n ≤ 1048576) (hLb : ∀ u, u < g.n → g.L u ≤ 1048576) (hp : p < g.n)
    (hS : RowsI w sv g.n g.L (fun u j => (g.Z u j : Int))) :
    Calls Try.prog 17 #[sv, .int .i64 p] w fun e w' => RetI (OnC g p) e ∧ w.Since w.heap.size w' := by
  obtain ⟨n, hgn⟩ : ∃ n, g.n = n := ⟨_, rfl⟩
  have HG : Hid (g.n = n) := hgn
  have HOK : Hid (GOk g) := ok
  have HLb : Hid (∀ u, u < n → g.L u ≤ 1048576) := fun u hu => hLb u (by omega)
  have HZn : Hid (∀ u, u < n → ∀ j, j < g.L u → g.Z u j < n) := fun u hu j hj => by have := (ok.rng u (by omega) j hj).1; omega
  rw [hgn] at hn hS hp
  clear hgn ok hLb
  obtain ⟨so, sb, s0, sc, R, C, rb, ro, rfl, hs⟩ := hS
  obtain rfl := (hs p hp).1
  have HR : Hid (∀ v, v < n → w.cell? ⟨sb, s0 + v, none⟩ = some (.slice (R v) (g.L v) (C v)) ∧ ∀ j, j < g.L v → R v = some ⟨rb v, ro v, none⟩ ∧ w.cell? ⟨rb v, ro v + j, none⟩ = some (.int .i64 (g.Z v j))) := fun v hv => (hs v hv).2
  clear hs
  have hmk4 := run_make_row' (P := Try.prog) 34 4 (.bool false) 1 Try.underlying34 Try.info4 rfl .i64 .i64 n (by omega) (by omega)
  obtain ⟨i3, hi3, hz30, hz31, hz32⟩ := info_parts Try.info3
  obtain ⟨hrow, hents⟩ := HR.out p hp
  have hLp := HLb.out p hp
  have hM0 := SM.start w n
  have g0 : (w.alloc (.cells (madeCells #[.bool false] n) 4)).cell? ⟨sb, s0 + p, none⟩ = some (.slice (R p) (g.L p) (C p)) := by rw [hM0.since.cell (a := ⟨sb, s0 + p, none⟩) (World.block_lt_of_cell? _ _ hrow)]; exact hrow
  clear hrow
  go_enter Try.func17, Try.ntmps17
  go_wp2
  refine wp_cut 0 (fun a' w' => a'.tmps.size = 86 ∧ a'.defers = [] ∧ XR1 w (.slice (some ⟨sb, s0, none⟩) n sc) g n p (slot a') w') ?_ ?_
  · clear hmk4
    rcases Nat.eq_zero_or_pos (g.L p) with hz | hpos
    · rw [hz] 
      clear hents hLp g0
      refine wp_loop_rounds 1 ?_
      rw [rounds_succ]
      go_wp2
      refine ⟨rfl, rfl, rfl, rfl, rfl, rfl, [], fun _ => false, ?_, ?_, hM0⟩
      · rw [hz]; exact SI.start g p
      · rw [uns_start]; exact Nat.le_refl _
    · rw [(hents 0 hpos).1]
      have HE : Hid (∀ j, j < g.L p → w.cell? ⟨rb p, ro p + j, none⟩ = some (.int .i64 (g.Z p j))) := fun j hj => (hents j hj).2
      clear hents g0
      go_loopg [6, 8] (g.L p) (fun gk vS i wr => ∃ (j : Nat) (S : List Nat) (seen : Nat → Bool), j ≤ g.L p ∧ gk = g.L p - j ∧ i = .int .i64 j ∧ Hid (SI g p j seen S g.n 0 ∧ uns seen n + S.length ≤ n) ∧ SM w wr n seen S vS)
      case atStart => exact ⟨0, [], fun _ => false, by omega, rfl, rfl, ⟨SI.start g p, by rw [uns_start]; exact Nat.le_refl _⟩, hM0⟩
      case round =>
        clear hM0
        obtain ⟨j, S, seen, hj, rfl, rfl, hI, hM⟩ := hrel
        by_cases hlj : j < g.L p
        · obtain ⟨x, hzx⟩ : ∃ x, g.Z p j = x := ⟨_, rfl⟩
          have hxn : x < n := by rw [← hzx]; exact HZn.out p hp j hlj
          have h0 := HE.out j hlj
          rw [hzx] at h0
          have c0 : wr.cell? ⟨rb p, ro p + j, none⟩ = some (.int .i64 x) := by rw [hM.since.cell (a := ⟨rb p, ro p + j, none⟩) (World.block_lt_of_cell? _ _ h0)]; exact h0
          have c1 : wr.cell? ⟨w.heap.size, x, none⟩ = some (.bool (seen x)) := hM.sn.cell hxn
          have c2 : wr.frozen? ⟨w.heap.size, x, none⟩ = false := hM.sn.frozen x
          have HZX : Hid (g.Z p j = x) := hzx
          have hwz := hM.sn.lt
          have hbd := hI.out.2
          have hSl : S.length ≤ n := by omega
          clear h0 hzx hbd
          cases hsx : seen x with
          | true =>
            rw [hsx] at c1
            have HSX : Hid (seen x = true) := hsx
            clear hsx
            go_wp2
            go_roundg (g.L p - (j + 1))
            case measure => omega
            case rel => exact ⟨j + 1, S, seen, by omega, rfl, by go_num, ⟨hI.out.1.arcP (by rw [HZX.out]; exact HSX.out), hI.out.2⟩, hM⟩
          | false =>
            rw [hsx] at c1
            have HSX : Hid (seen x = false) := hsx
            clear hsx
            have HM : Hid (SM w (wr.setCell ⟨w.heap.size, x, none⟩ (.bool true)) n (upd seen x true) S u6) := hM.set x true
            clear hM
            go_wp2_with (at_builtin; refine wpList_append_own _ rfl (.tmp 39) (.tmp 41) 22 rfl (w.heap.size + 1) 3 i3 (.int .i64 0) 1 8 Try.underlying22 hi3 hz30 hz31 hz32 rfl (by decide) u6 S.length (ivals S) rfl ?qown ⟨wr.heap.size, 0, none⟩ 1 1 [.int .i64 x] rfl rfl ?qc1 ?qc2 ?qc3 ?qc4 ?qc5 ?_)
            case qown => exact (HM.out.alloc _).st
            case qc1 => exact cells_new _ _ (by simp) [_] _
            case qc2 => intro y hy; simp at hy; subst hy; rfl
            case qc3 => unfold maxLen; omega
            case qc4 => omega
            case qc5 => simp; omega
            intro v1 w1 hown1 hgrow1 _
            have HM1 : Hid (SM w w1 n (upd seen x true) (x :: S) v1) := (HM.out.alloc _).app hown1 hgrow1
            clear hown1 hgrow1 HM c0 c1 c2
            go_wp2
            go_roundg (g.L p - (j + 1))
            case measure => omega
            case rel =>
              have hu := uns_push HSX.out hxn
              refine ⟨j + 1, x :: S, upd seen x true, by omega, rfl, by go_num, ⟨(hI.out.1.push (by rw [HG.out]; exact hxn) ⟨0, x, ⟨j, hlj, HZX.out⟩, rfl⟩).arcP (by rw [HZX.out]; exact upd_same _ _ _), ?_⟩, HM1.out⟩
              have := hI.out.2
              rw [List.length_cons]
              omega
        · go_wp2
          have e : j = g.L p := by omega
          rw [e] at hI
          exact ⟨rfl, rfl, rfl, rfl, rfl, rfl, S, seen, hI.out.1, hI.out.2, hM⟩
  · clear hM0 g0 hents hLp hmk4
    rintro a' w' ⟨hsz, hdf, hX⟩
    rw [← mkA_slot hsz hdf]
    generalize slot a' = f at hX
    rw [mkA_86, hX.f0, hX.f1, hX.f5]
    have HX : Hid (XR1 w (.slice (some ⟨sb, s0, none⟩) n sc) g n p f w') := hX
    obtain ⟨S, seen, hI, hb, hM⟩ := hX.x
    clear hX hsz hdf
    go_wp2
    go_loopg [6] (uns seen n + S.length) (fun gk vS wr => ∃ (S : List Nat) (seen : Nat → Bool), gk = uns seen n + S.length ∧ Hid (SI g p (g.L p) seen S g.n 0) ∧ uns seen n + S.length ≤ n ∧ SM w wr n seen S vS)
    case atStart => exact ⟨S, seen, rfl, hI, hb, hM⟩
    case round =>
      clear hM hI hb HX
      obtain ⟨S, seen, rfl, hI, hb, hM⟩ := hrel
      match S with
      | [] =>
        obtain ⟨ao, cap, rfl⟩ := own_empty hM.st
        go_wp2
        go_ret
        exact ⟨⟨false, rfl, by simp only [Bool.false_eq_true, false_iff]; exact hI.out.no HOK.out (by rw [HG.out]; exact hp)⟩, hM.since⟩
      | v :: S =>
        obtain ⟨gs, cap, rfl, hsc, hsm, hcell, hM'⟩ := hM.top
        have hvn : v < n := by have := (hI.out.sn v (by simp)).1; rw [HG.out] at this; exact this
        rw [List.length_cons] at hb
        have hSl : S.length + 1 ≤ 1048576 := by omega
        unfold maxLen at hsm
        by_cases hvp : v = p
        · have hvp' : ((v : Int) == (p : Int)) = true := by simp [hvp]
          have HC : Hid (OnC g p) := by
            have := hI.out.snd v (by rw [HG.out]; exact hvn) (hI.out.sn v (by simp)).2
            rw [hvp] at this
            exact this
          clear hvp
          go_wp2
          go_ret
          exact ⟨⟨true, rfl, by simp only [true_iff]; exact HC.out⟩, hM'.since⟩
        · have hvp' : ((v : Int) == (p : Int)) = false := by simp only [beq_eq_false_iff_ne, ne_eq, Int.natCast_inj]; exact hvp
          have HVR : Hid (∃ k, Wk g (k + 1) p v) := hI.out.snd v (by rw [HG.out]; exact hvn) (hI.out.sn v (by simp)).2
          have HI1 : Hid (SI g p (g.L p) seen S v 0) := hI.out.pop hvp
          obtain ⟨hrow, hents⟩ := HR.out v hvn
          have hLv := HLb.out v hvn
          have hrow' : wr.cell? ⟨sb, s0 + v, none⟩ = some (.slice (R v) (g.L v) (C v)) := by rw [hM.since.cell (a := ⟨sb, s0 + v, none⟩) (World.block_lt_of_cell? _ _ hrow)]; exact hrow
          have HM' : Hid (SM w wr n seen S (.slice (some ⟨gs, 0, none⟩) S.length cap)) := hM'
          clear hvp hI hM hM' hrow
          rcases Nat.eq_zero_or_pos (g.L v) with hz | hpos
          · rw [hz] at hrow'
            clear hents hLv
            go_wp2
            refine wp_loop_rounds 1 ?_
            rw [rounds_succ]
            go_wp2
            go_roundg (uns seen n + S.length)
            case measure => rw [List.length_cons]; omega
            case rel =>
              refine ⟨S, seen, rfl, ?_, by omega, HM'.out⟩
              have := HI1.out
              rw [← hz] at this
              exact this.done
          · rw [(hents 0 hpos).1] at hrow'
            have HE : Hid (∀ j, j < g.L v → w.cell? ⟨rb v, ro v + j, none⟩ = some (.int .i64 (g.Z v j))) := fun j hj => (hents j hj).2
            clear hents
            go_wp2
            clear hrow' hcell
            go_loopg [6, 12] (g.L v) (fun gk vS i wr => ∃ (j : Nat) (S' : List Nat) (seen' : Nat → Bool), j ≤ g.L v ∧ gk = g.L v - j ∧ i = .int .i64 j ∧ Hid (SI g p (g.L p) seen' S' v j ∧ uns seen' n + S'.length = uns seen n + S.length) ∧ SM w wr n seen' S' vS)
            case atStart => exact ⟨0, S, seen, by omega, rfl, rfl, ⟨HI1.out, rfl⟩, HM'.out⟩
            case round =>
              clear HM' HI1
              obtain ⟨j, S', seen', hj, rfl, rfl, hI, hM⟩ := hrel
              by_cases hlj : j < g.L v
              · obtain ⟨x, hzx⟩ : ∃ x, g.Z v j = x := ⟨_, rfl⟩
                have hxn : x < n := by rw [← hzx]; exact HZn.out v hvn j hlj
                have h0 := HE.out j hlj
                rw [hzx] at h0
                have c0 : wr.cell? ⟨rb v, ro v + j, none⟩ = some (.int .i64 x) := by rw [hM.since.cell (a := ⟨rb v, ro v + j, none⟩) (World.block_lt_of_cell? _ _ h0)]; exact h0
                have c1 : wr.cell? ⟨w.heap.size, x, none⟩ = some (.bool (seen' x)) := hM.sn.cell hxn
                have c2 : wr.frozen? ⟨w.heap.size, x, none⟩ = false := hM.sn.frozen x
                have HZX : Hid (g.Z v j = x) := hzx
                have hwz := hM.sn.lt
                have hbd := hI.out.2
                have hSl' : S'.length ≤ n := by omega
                clear h0 hzx hbd
                cases hsx : seen' x with
                | true =>
                  rw [hsx] at c1
                  have HSX : Hid (seen' x = true) := hsx
                  clear hsx
                  go_wp2
                  go_roundg (g.L v - (j + 1))
                  case measure => omega
                  case rel => exact ⟨j + 1, S', seen', by omega, rfl, by go_num, ⟨hI.out.1.arcV (by rw [HZX.out]; exact HSX.out), hI.out.2⟩, hM⟩
                | false =>
                  rw [hsx] at c1
                  have HSX : Hid (seen' x = false) := hsx
                  clear hsx
                  have HM : Hid (SM w (wr.setCell ⟨w.heap.size, x, none⟩ (.bool true)) n (upd seen' x true) S' u6) := hM.set x true
                  have HV : Hid (∃ k, Wk g (k + 1) p x) := by
                    obtain ⟨k, hk⟩ := HVR.out
                    exact ⟨k + 1, hk.snoc ⟨j, hlj, HZX.out⟩⟩
                  clear hM
                  go_wp2_with (at_builtin; refine wpList_append_own _ rfl (.tmp 82) (.tmp 84) 22 rfl (w.heap.size + 1) 3 i3 (.int .i64 0) 1 8 Try.underlying22 hi3 hz30 hz31 hz32 rfl (by decide) u6 S'.length (ivals S') rfl ?qown ⟨wr.heap.size, 0, none⟩ 1 1 [.int .i64 x] rfl rfl ?qc1 ?qc2 ?qc3 ?qc4 ?qc5 ?_)
                  case qown => exact (HM.out.alloc _).st
                  case qc1 => exact cells_new _ _ (by simp) [_] _
                  case qc2 => intro y hy; simp at hy; subst hy; rfl
                  case qc3 => unfold maxLen; omega
                  case qc4 => omega
                  case qc5 => simp; omega
                  intro v1 w1 hown1 hgrow1 _
                  have HM1 : Hid (SM w w1 n (upd seen' x true) (x :: S') v1) := (HM.out.alloc _).app hown1 hgrow1
                  clear hown1 hgrow1 HM c0 c1 c2
                  go_wp2
                  go_roundg (g.L v - (j + 1))
                  case measure => omega
                  case rel =>
                    have hu := uns_push HSX.out hxn
                    refine ⟨j + 1, x :: S', upd seen' x true, by omega, rfl, by go_num, ⟨(hI.out.1.push (by rw [HG.out]; exact hxn) HV.out).arcV (by rw [HZX.out]; exact upd_same _ _ _), ?_⟩, HM1.out⟩
                    have := hI.out.2
                    rw [List.length_cons]
                    omega
              · have hjL : j = g.L v := by omega
                have HD : Hid (SI g p (g.L p) seen' S' g.n 0) := by
                  have := hI.out.1
                  rw [hjL] at this
                  exact this.done
                clear hjL
                go_wp2
                go_roundg (uns seen' n + S'.length)
                case measure => have := hI.out.2; rw [List.length_cons]; omega
                case rel => exact ⟨S', seen', rfl, HD.out, by have := hI.out.2; omega, hM⟩
end Go.Proofs.Qxb6600028a
