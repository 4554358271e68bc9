import Derived.Test.Qxb6600028aMem
namespace Go.Proofs.Qxb6600028a
open Go.RowKit Go.Deep

def loops : Code → List Code
  | .loop c => c :: loops c
  | .seq a b => loops a ++ loops b
  | .block _ c => loops c
  | .scope c => loops c
  | .cond _ a b => loops a ++ loops b
  | _ => []

/-- The calls' loop: what holds at its head. -/
structure K3 (w : World) (nv sv : Value) (g : Gr) (n q : Nat) (s : TS) (f : Nat → Value) (wr : World) : Prop where
  f1 : f 1 = .pointer (some ⟨w.heap.size, 0, none⟩)
  f3 : f 3 = .slice (some ⟨w.heap.size + 1, 0, none⟩) n n
  f4 : f 4 = .slice (some ⟨w.heap.size + 1 + 1, 0, none⟩) n n
  f5 : f 5 = .slice (some ⟨w.heap.size + 1 + 1 + 1, 0, none⟩) n n
  f8 : f 8 = .int .i64 s.ctr
  f9 : f 9 = .int .i64 s.lst
  f41 : f 41 = .int .i64 n
  f42 : f 42 = .int .i64 q
  gn : g.n = n
  ti : TI g s
  ct : CtrOk g s
  vi : ∀ x, x ≤ q → s.idx x ≠ -1
  tm : TM w wr nv sv n s.idx s.low s.onS s.S (f 7)
  ca : CA w wr (f 11) s.C

def I3 (w : World) (nv sv : Value) (g : Gr) (n q : Nat) (k : Nat) (f : Nat → Value) (wr : World) : Prop :=
  ∃ s : TS, k = tW g s.idx s.C ∧ K3 w nv sv g n q s f wr

def X3 (w : World) (nv sv : Value) (g : Gr) (n q : Nat) (a : Act) (wr : World) : Prop :=
  a.tmps.size = 257 ∧ a.defers = [] ∧ ∃ s : TS, s.C = [] ∧ K3 w nv sv g n q s (slot a) wr

/-- The one way out of the calls' loop. -/
def Q3 (X : Act → World → Prop) : Exit → Act → World → Prop
  | .exit 4, a, w => X a w
  | _, _, _ => False

theorem K3.bound {w : World} {nv sv : Value} {g : Gr} {n q : Nat} {s : TS} {f : Nat → Value} {wr : World} (h : K3 w nv sv g n q s f wr) : s.C.length ≤ n ∧ s.S.length ≤ n ∧ s.ctr ≤ n := by
  have h1 := h.ti.lenC
  have h2 := h.ti.lenS
  have h3 := h.ct.le
  rw [h.gn] at h3
  omega

set_option maxRecDepth 100000 in
set_option maxHeartbeats 1000000 in
theorem calls_exit (w : World) (nv sv : Value) (g : Gr) (n q : Nat) (s : TS) (f : Nat → Value) (wr : World) (hK3 : K3 w nv sv g n q s f wr) (hC : s.C = [])
    (K : Act → World → Prop) :
    Code.wp Try.prog ((loops (Try.f28.body.getD .skip))[2]?.getD .skip) (Exit.then K (Q3 (X3 w nv sv g n q))) (mkA 257 f) wr := by
  conv => arg 2; whnf
  rw [mkA_257]
  have hca := hK3.ca
  rw [hC] at hca
  obtain ⟨ao, cap, h11⟩ := own_empty hca
  have HK : Hid (K3 w nv sv g n q s f wr) := hK3
  rw [h11]
  have H11 : Hid (f 11 = .slice ao 0 cap) := h11
  clear hK3 hca h11
  have HC : Hid (s.C = []) := hC
  clear hC
  go_wp2
  refine ⟨rfl, rfl, s, HC.out, ?_⟩
  obtain ⟨e1, e3, e4, e5, e8, e9, e41, e42, t0, t1, t2, t3, t4, t5⟩ := HK.out
  exact ⟨e1, e3, e4, e5, e8, e9, e41, e42, t0, t1, t2, t3, t4, by rw [H11.out] at t5; exact t5⟩

set_option maxRecDepth 100000 in
set_option maxHeartbeats 1000000 in
theorem calls_new (w : World) (nv : Value) (sb s0 sc : Nat) (g : Gr) (n q : Nat) (s : TS) (f : Nat → Value) (wr : World) (hK3 : K3 w nv (.slice (some ⟨sb, s0, none⟩) n sc) g n q s f wr) (v a : Nat) (cs : List (Nat × Nat)) (hC : s.C = (v, a) :: cs)
    (_hn : n ≤ 1048576) (hvn : v < n) (ha : a < g.L v) (hL : g.L v ≤ 1048576) (rb ro rc : Nat) (hrow : wr.cell? ⟨sb, s0 + v, none⟩ = some (.slice (some ⟨rb, ro, none⟩) (g.L v) rc)) (z : Nat) (hzz : g.Z v a = z) (hz : wr.cell? ⟨rb, ro + a, none⟩ = some (.int .i64 z))
    (hzn : z < n) (hzu : s.idx z = -1)
    (J : Nat → (Nat → Value) → World → Prop) (K X : Act → World → Prop) (hJ : ∀ k f w', I3 w nv (.slice (some ⟨sb, s0, none⟩) n sc) g n q k f w' → J k f w') (hK : ∀ a' w', EndI 257 J (tW g s.idx s.C) a' w' → K a' w') :
    Code.wp Try.prog ((loops (Try.f28.body.getD .skip))[2]?.getD .skip) (Exit.then K (Q3 X)) (mkA 257 f) wr := by
  conv => arg 2; whnf
  rw [mkA_257]
  have hca := hK3.ca
  rw [hC] at hca
  obtain ⟨gc, cap, h11, hgb, hglt, hlc, hcm, c1, c2, c3, hpop⟩ := hca.top
  rw [h11] at hca
  have hbd := hK3.bound
  have hb1 : wr.cell? ⟨w.heap.size, 1, none⟩ = some (.slice (some ⟨sb, s0, none⟩) n sc) := by simpa using hK3.tm.box.cell (i := 1) (by omega)
  rw [hC, List.length_cons] at hbd
  obtain ⟨hb2, hb3, hb4⟩ := hbd
  unfold maxLen at hcm
  have HJ : Hid (∀ k f w', I3 w nv (.slice (some ⟨sb, s0, none⟩) n sc) g n q k f w' → J k f w') := hJ
  clear hJ
  have x1 : wr.cell? ⟨w.heap.size + 1, z, none⟩ = some (.int .i64 (-1)) := by rw [← hzu]; exact hK3.tm.ix.cell hzn
  have x2 : wr.frozen? ⟨w.heap.size + 1, z, none⟩ = false := hK3.tm.ix.frozen z
  have l1 : wr.cell? ⟨w.heap.size + 1 + 1, z, none⟩ = some (.int .i64 (s.low z)) := hK3.tm.lw.cell hzn
  have l2 : wr.frozen? ⟨w.heap.size + 1 + 1, z, none⟩ = false := hK3.tm.lw.frozen z
  rw [h11, hK3.f1, hK3.f3, hK3.f4, hK3.f5, hK3.f8]
  obtain ⟨i3, hi3, hz30, hz31, hz32⟩ := info_parts Try.info3
  obtain ⟨i43, hi43, hz430, hz431, hz432⟩ := info_parts Try.info43
  have hctn := hK3.ct.lt (w := z) (by rw [hK3.gn]; exact hzn) hzu
  rw [hK3.gn] at hctn
  have HK : Hid (K3 w nv (.slice (some ⟨sb, s0, none⟩) n sc) g n q s f wr) := hK3
  have HC : Hid (s.C = (v, a) :: cs) := hC
  have HCA : Hid (CA w wr (.slice (some ⟨gc, 0, none⟩) (cs.length + 1) cap) ((v, a) :: cs)) := hca
  have HZ : Hid (g.Z v a = z ∧ s.idx z = -1) := ⟨hzz, hzu⟩
  clear hK3 hca h11 hC hzu hpop hzz
  have HM1 : Hid (∀ d, TM w ((((wr.drewN d).setCell ⟨gc, cs.length * 2 + 1, none⟩ (.int .i64 ((a : Int) + 1))).setCell ⟨w.heap.size + 1, z, none⟩ (.int .i64 s.ctr)).setCell ⟨w.heap.size + 1 + 1, z, none⟩ (.int .i64 s.ctr)) nv (.slice (some ⟨sb, s0, none⟩) n sc) n (upd s.idx z s.ctr) (upd s.low z s.ctr) s.onS s.S (f 7)) := fun d =>
    (((HK.out.tm.drewN d).setCalls (HCA.out.drewN d) _ _).setIx z s.ctr).setLw z s.ctr
  have HC1 : Hid (∀ d, CA w ((((wr.drewN d).setCell ⟨gc, cs.length * 2 + 1, none⟩ (.int .i64 ((a : Int) + 1))).setCell ⟨w.heap.size + 1, z, none⟩ (.int .i64 s.ctr)).setCell ⟨w.heap.size + 1 + 1, z, none⟩ (.int .i64 s.ctr)) (.slice (some ⟨gc, 0, none⟩) (cs.length + 1) cap) ((v, a + 1) :: cs)) := fun d =>
    (((HCA.out.drewN d).setArc (a + 1) _ rfl).below (by show w.heap.size + 1 < _; omega) _).below (by show w.heap.size + 1 + 1 < _; omega) _
  go_wp2
  go_quiet (fail)
  go_wp2
  go_quiet (fail)
  go_wp2_with (at_builtin; refine wpList_append_own _ rfl (.tmp 128) (.tmp 130) 22 rfl (w.heap.size + 4) 3 i3 (.int .i64 0) 1 8 Try.underlying22 hi3 hz30 hz31 hz32 rfl (by decide) (f 7) s.S.length (ivals s.S) rfl ?qown ⟨wr.heap.size, 0, none⟩ 1 1 [.int .i64 z] rfl rfl ?qc1 ?qc2 ?qc3 ?qc4 ?qc5 ?_)
  case qown => exact ((HM1.out _).alloc _).st
  case qc1 => exact cells_new _ _ (by simp) [_] _
  case qc2 => intro u hu; simp at hu; subst hu; rfl
  case qc3 => unfold maxLen; omega
  case qc4 => omega
  case qc5 => simp; omega
  intro v1 w1 hown1 hgrow1 _
  have HM2 := ((HM1.out _).alloc _).app hown1 hgrow1
  have HC2 := ((HC1.out _).alloc _).stackApp ((HM1.out _).alloc _) hgrow1
  clear hown1 hgrow1 HM1 HC1
  have o1 : w1.cell? ⟨w.heap.size + 1 + 1 + 1, z, none⟩ = some (.bool (s.onS z)) := HM2.os.cell hzn
  have o2 : w1.frozen? ⟨w.heap.size + 1 + 1 + 1, z, none⟩ = false := HM2.os.frozen z
  have o3 := HM2.os.lt
  clear x1 x2 l1 l2 c1 c2 c3 hrow hz hb1
  have HM3 : Hid (TM w (w1.setCell ⟨w.heap.size + 1 + 1 + 1, z, none⟩ (.bool true)) nv (.slice (some ⟨sb, s0, none⟩) n sc) n (upd s.idx z s.ctr) (upd s.low z s.ctr) (upd s.onS z true) (z :: s.S) v1) := HM2.setOs z true
  have HC3 : Hid (CA w (w1.setCell ⟨w.heap.size + 1 + 1 + 1, z, none⟩ (.bool true)) (.slice (some ⟨gc, 0, none⟩) (cs.length + 1) cap) ((v, a + 1) :: cs)) := CA.below HC2 (by show w.heap.size + 1 + 1 + 1 < _; omega) _
  clear HM2 HC2
  go_wp2_with (at_builtin; refine wpList_append_own _ rfl (.tmp 135) (.tmp 138) 44 rfl (w.heap.size + 4) 43 i43 (.agg #[.int .i64 0, .int .i64 0]) 2 16 Try.underlying44 hi43 hz430 hz431 hz432 rfl (by decide) (.slice (some ⟨gc, 0, none⟩) (cs.length + 1) cap) (cs.length + 1) (pvals ((v, a + 1) :: cs)) rfl ?rown ⟨w1.heap.size, 0, none⟩ 1 1 [.int .i64 z, .int .i64 0] rfl rfl ?rc1 ?rc2 ?rc3 ?rc4 ?rc5 ?_)
  case rown => exact HC3.out.alloc _
  case rc1 => exact cells_new _ _ (by simp) [_, _] _
  case rc2 => intro u hu; simp at hu; rcases hu with rfl | rfl <;> rfl
  case rc3 => unfold maxLen; omega
  case rc4 => omega
  case rc5 => simp; omega
  intro v2 w2 hown2 hgrow2 _
  have HM4 : Hid (TM w w2 nv (.slice (some ⟨sb, s0, none⟩) n sc) n (upd s.idx z s.ctr) (upd s.low z s.ctr) (upd s.onS z true) (z :: s.S) v1) := TM.callsApp (HM3.out.alloc _) (HC3.out.alloc _) hgrow2
  have HC4 : Hid (CA w w2 v2 ((z, 0) :: (v, a + 1) :: cs)) := CA.app hown2
  clear hown2 hgrow2 HM3 HC3 o1 o2 o3
  go_wp2
  refine EndI.intro (tW g (upd s.idx z s.ctr) ((z, 0) :: (v, a + 1) :: cs)) ?_ rfl rfl (HJ.out _ _ _ ⟨{ (s.push z) with C := (z, 0) :: (v, a + 1) :: cs }, rfl, ?_⟩)
  · rw [HC.out]
    exact tW_push (by rw [HK.out.gn]; exact hzn) HZ.out.2 ha
  · obtain ⟨e1, e3, e4, e5, e8, e9, e41, e42, t0, t1, t2, t3, t4, t5⟩ := HK.out
    refine ⟨rfl, rfl, rfl, rfl, rfl, e9, e41, e42, t0, ?_, ?_, ?_, HM4.out, HC4.out⟩
    · exact t1.step_new (by rw [t0]; exact hzn) HZ.out.2 HC.out ha HZ.out.1
    · exact t2.push (by rw [t0]; exact hzn) HZ.out.2
    · intro x hx
      show upd s.idx z s.ctr x ≠ -1
      by_cases e : x = z
      · rw [e, upd_same]; omega
      · rw [upd_ne _ _ _ e]; exact t3 x hx

set_option maxRecDepth 100000 in
set_option maxHeartbeats 1000000 in
theorem calls_skip2 (w : World) (nv : Value) (sb s0 sc : Nat) (g : Gr) (n q : Nat) (s : TS) (f : Nat → Value) (wr : World) (hK3 : K3 w nv (.slice (some ⟨sb, s0, none⟩) n sc) g n q s f wr) (v a : Nat) (cs : List (Nat × Nat)) (hC : s.C = (v, a) :: cs)
    (_hn : n ≤ 1048576) (hvn : v < n) (ha : a < g.L v) (hL : g.L v ≤ 1048576) (rb ro rc : Nat) (hrow : wr.cell? ⟨sb, s0 + v, none⟩ = some (.slice (some ⟨rb, ro, none⟩) (g.L v) rc)) (z : Nat) (hzz : g.Z v a = z) (hz : wr.cell? ⟨rb, ro + a, none⟩ = some (.int .i64 z))
    (hzn : z < n) (hzu : s.idx z ≠ -1) (hon : s.onS z = false)
    (J : Nat → (Nat → Value) → World → Prop) (K X : Act → World → Prop) (hJ : ∀ k f w', I3 w nv (.slice (some ⟨sb, s0, none⟩) n sc) g n q k f w' → J k f w') (hK : ∀ a' w', EndI 257 J (tW g s.idx s.C) a' w' → K a' w') :
    Code.wp Try.prog ((loops (Try.f28.body.getD .skip))[2]?.getD .skip) (Exit.then K (Q3 X)) (mkA 257 f) wr := by
  conv => arg 2; whnf
  rw [mkA_257]
  have hca := hK3.ca
  rw [hC] at hca
  obtain ⟨gc, cap, h11, hgb, hglt, hlc, hcm, c1, c2, c3, hpop⟩ := hca.top
  rw [h11] at hca
  have hbd := hK3.bound
  have hb1 : wr.cell? ⟨w.heap.size, 1, none⟩ = some (.slice (some ⟨sb, s0, none⟩) n sc) := by simpa using hK3.tm.box.cell (i := 1) (by omega)
  rw [hC, List.length_cons] at hbd
  obtain ⟨hb2, hb3, hb4⟩ := hbd
  unfold maxLen at hcm
  have HJ : Hid (∀ k f w', I3 w nv (.slice (some ⟨sb, s0, none⟩) n sc) g n q k f w' → J k f w') := hJ
  clear hJ
  have x0 : (s.idx z == -1) = false := by simpa using hzu
  have x1 : wr.cell? ⟨w.heap.size + 1, z, none⟩ = some (.int .i64 (s.idx z)) := hK3.tm.ix.cell hzn
  have o1 : wr.cell? ⟨w.heap.size + 1 + 1 + 1, z, none⟩ = some (.bool false) := by rw [← hon]; exact hK3.tm.os.cell hzn
  rw [h11, hK3.f1, hK3.f3, hK3.f4, hK3.f5]
  have HK : Hid (K3 w nv (.slice (some ⟨sb, s0, none⟩) n sc) g n q s f wr) := hK3
  have HC : Hid (s.C = (v, a) :: cs) := hC
  have HCA : Hid (CA w wr (.slice (some ⟨gc, 0, none⟩) (cs.length + 1) cap) ((v, a) :: cs)) := hca
  have HZ : Hid (g.Z v a = z ∧ s.idx z ≠ -1 ∧ (z ∈ s.S → s.low v ≤ s.idx z)) := ⟨hzz, hzu, fun hm => by
    have := (hK3.ti.ons z (by rw [hK3.gn]; exact hzn)).2 hm
    rw [hon] at this; simp at this⟩
  clear hK3 hca h11 hC hzu hpop hzz hon
  go_wp2
  go_quiet (fail)
  go_wp2
  go_quiet (fail)
  go_wp2
  go_quiet (fail)
  go_wp2
  refine EndI.intro (tW g s.idx ((v, a + 1) :: cs)) ?_ rfl rfl (HJ.out _ _ _ ⟨{ s with C := (v, a + 1) :: cs }, rfl, ?_⟩)
  · rw [HC.out]
    exact tW_bump ha
  · obtain ⟨e1, e3, e4, e5, e8, e9, e41, e42, t0, t1, t2, t3, t4, t5⟩ := HK.out
    exact ⟨rfl, rfl, rfl, rfl, e8, e9, e41, e42, t0, t1.step_skip HZ.out.2.1 HC.out ha HZ.out.1 HZ.out.2.2, t2, t3, ((t4.drewN _).setCalls (HCA.out.drewN _) _ _).drewN _, ((HCA.out.drewN _).setArc (a + 1) _ rfl).drewN _⟩

set_option maxRecDepth 100000 in
set_option maxHeartbeats 1000000 in
theorem calls_skip1 (w : World) (nv : Value) (sb s0 sc : Nat) (g : Gr) (n q : Nat) (s : TS) (f : Nat → Value) (wr : World) (hK3 : K3 w nv (.slice (some ⟨sb, s0, none⟩) n sc) g n q s f wr) (v a : Nat) (cs : List (Nat × Nat)) (hC : s.C = (v, a) :: cs)
    (_hn : n ≤ 1048576) (hvn : v < n) (ha : a < g.L v) (hL : g.L v ≤ 1048576) (rb ro rc : Nat) (hrow : wr.cell? ⟨sb, s0 + v, none⟩ = some (.slice (some ⟨rb, ro, none⟩) (g.L v) rc)) (z : Nat) (hzz : g.Z v a = z) (hz : wr.cell? ⟨rb, ro + a, none⟩ = some (.int .i64 z))
    (hzn : z < n) (hzu : s.idx z ≠ -1) (hon : s.onS z = true) (hlow : s.low v ≤ s.idx z)
    (J : Nat → (Nat → Value) → World → Prop) (K X : Act → World → Prop) (hJ : ∀ k f w', I3 w nv (.slice (some ⟨sb, s0, none⟩) n sc) g n q k f w' → J k f w') (hK : ∀ a' w', EndI 257 J (tW g s.idx s.C) a' w' → K a' w') :
    Code.wp Try.prog ((loops (Try.f28.body.getD .skip))[2]?.getD .skip) (Exit.then K (Q3 X)) (mkA 257 f) wr := by
  conv => arg 2; whnf
  rw [mkA_257]
  have hca := hK3.ca
  rw [hC] at hca
  obtain ⟨gc, cap, h11, hgb, hglt, hlc, hcm, c1, c2, c3, hpop⟩ := hca.top
  rw [h11] at hca
  have hbd := hK3.bound
  have hb1 : wr.cell? ⟨w.heap.size, 1, none⟩ = some (.slice (some ⟨sb, s0, none⟩) n sc) := by simpa using hK3.tm.box.cell (i := 1) (by omega)
  rw [hC, List.length_cons] at hbd
  obtain ⟨hb2, hb3, hb4⟩ := hbd
  unfold maxLen at hcm
  have HJ : Hid (∀ k f w', I3 w nv (.slice (some ⟨sb, s0, none⟩) n sc) g n q k f w' → J k f w') := hJ
  clear hJ
  have x0 : (s.idx z == -1) = false := by simpa using hzu
  have x1 : wr.cell? ⟨w.heap.size + 1, z, none⟩ = some (.int .i64 (s.idx z)) := hK3.tm.ix.cell hzn
  have o1 : wr.cell? ⟨w.heap.size + 1 + 1 + 1, z, none⟩ = some (.bool true) := by rw [← hon]; exact hK3.tm.os.cell hzn
  have l1 : wr.cell? ⟨w.heap.size + 1 + 1, v, none⟩ = some (.int .i64 (s.low v)) := hK3.tm.lw.cell hvn
  rw [h11, hK3.f1, hK3.f3, hK3.f4, hK3.f5]
  have HK : Hid (K3 w nv (.slice (some ⟨sb, s0, none⟩) n sc) g n q s f wr) := hK3
  have HC : Hid (s.C = (v, a) :: cs) := hC
  have HCA : Hid (CA w wr (.slice (some ⟨gc, 0, none⟩) (cs.length + 1) cap) ((v, a) :: cs)) := hca
  have HZ : Hid (g.Z v a = z ∧ s.idx z ≠ -1 ∧ (z ∈ s.S → s.low v ≤ s.idx z)) := ⟨hzz, hzu, fun _ => hlow⟩
  clear hK3 hca h11 hC hzu hpop hzz hon
  go_wp2
  go_quiet (fail)
  go_wp2
  go_quiet (fail)
  go_wp2
  go_quiet (fail)
  go_wp2
  refine EndI.intro (tW g s.idx ((v, a + 1) :: cs)) ?_ rfl rfl (HJ.out _ _ _ ⟨{ s with C := (v, a + 1) :: cs }, rfl, ?_⟩)
  · rw [HC.out]
    exact tW_bump ha
  · obtain ⟨e1, e3, e4, e5, e8, e9, e41, e42, t0, t1, t2, t3, t4, t5⟩ := HK.out
    exact ⟨rfl, rfl, rfl, rfl, e8, e9, e41, e42, t0, t1.step_skip HZ.out.2.1 HC.out ha HZ.out.1 HZ.out.2.2, t2, t3, ((t4.drewN _).setCalls (HCA.out.drewN _) _ _).drewN _, ((HCA.out.drewN _).setArc (a + 1) _ rfl).drewN _⟩

set_option maxRecDepth 100000 in
set_option maxHeartbeats 1000000 in
theorem calls_low (w : World) (nv : Value) (sb s0 sc : Nat) (g : Gr) (n q : Nat) (s : TS) (f : Nat → Value) (wr : World) (hK3 : K3 w nv (.slice (some ⟨sb, s0, none⟩) n sc) g n q s f wr) (v a : Nat) (cs : List (Nat × Nat)) (hC : s.C = (v, a) :: cs)
    (_hn : n ≤ 1048576) (hvn : v < n) (ha : a < g.L v) (hL : g.L v ≤ 1048576) (rb ro rc : Nat) (hrow : wr.cell? ⟨sb, s0 + v, none⟩ = some (.slice (some ⟨rb, ro, none⟩) (g.L v) rc)) (z : Nat) (hzz : g.Z v a = z) (hz : wr.cell? ⟨rb, ro + a, none⟩ = some (.int .i64 z))
    (hzn : z < n) (hzu : s.idx z ≠ -1) (hon : s.onS z = true) (hlow : s.idx z < s.low v)
    (J : Nat → (Nat → Value) → World → Prop) (K X : Act → World → Prop) (hJ : ∀ k f w', I3 w nv (.slice (some ⟨sb, s0, none⟩) n sc) g n q k f w' → J k f w') (hK : ∀ a' w', EndI 257 J (tW g s.idx s.C) a' w' → K a' w') :
    Code.wp Try.prog ((loops (Try.f28.body.getD .skip))[2]?.getD .skip) (Exit.then K (Q3 X)) (mkA 257 f) wr := by
  conv => arg 2; whnf
  rw [mkA_257]
  have hca := hK3.ca
  rw [hC] at hca
  obtain ⟨gc, cap, h11, hgb, hglt, hlc, hcm, c1, c2, c3, hpop⟩ := hca.top
  rw [h11] at hca
  have hbd := hK3.bound
  have hb1 : wr.cell? ⟨w.heap.size, 1, none⟩ = some (.slice (some ⟨sb, s0, none⟩) n sc) := by simpa using hK3.tm.box.cell (i := 1) (by omega)
  rw [hC, List.length_cons] at hbd
  obtain ⟨hb2, hb3, hb4⟩ := hbd
  unfold maxLen at hcm
  have HJ : Hid (∀ k f w', I3 w nv (.slice (some ⟨sb, s0, none⟩) n sc) g n q k f w' → J k f w') := hJ
  clear hJ
  have x0 : (s.idx z == -1) = false := by simpa using hzu
  have x1 : wr.cell? ⟨w.heap.size + 1, z, none⟩ = some (.int .i64 (s.idx z)) := hK3.tm.ix.cell hzn
  have o1 : wr.cell? ⟨w.heap.size + 1 + 1 + 1, z, none⟩ = some (.bool true) := by rw [← hon]; exact hK3.tm.os.cell hzn
  have l1 : wr.cell? ⟨w.heap.size + 1 + 1, v, none⟩ = some (.int .i64 (s.low v)) := hK3.tm.lw.cell hvn
  have l2 : wr.frozen? ⟨w.heap.size + 1 + 1, v, none⟩ = false := hK3.tm.lw.frozen v
  rw [h11, hK3.f1, hK3.f3, hK3.f4, hK3.f5]
  have HK : Hid (K3 w nv (.slice (some ⟨sb, s0, none⟩) n sc) g n q s f wr) := hK3
  have HC : Hid (s.C = (v, a) :: cs) := hC
  have HCA : Hid (CA w wr (.slice (some ⟨gc, 0, none⟩) (cs.length + 1) cap) ((v, a) :: cs)) := hca
  have HZ : Hid (g.Z v a = z ∧ z ∈ s.S) := ⟨hzz, (hK3.ti.ons z (by rw [hK3.gn]; exact hzn)).1 hon⟩
  clear hK3 hca h11 hC hzu hpop hzz hon
  go_wp2
  go_quiet (fail)
  go_wp2
  go_quiet (fail)
  go_wp2
  go_quiet (fail)
  go_wp2
  go_region
  go_wp2
  refine EndI.intro (tW g s.idx ((v, a + 1) :: cs)) ?_ rfl rfl (HJ.out _ _ _ ⟨{ s with low := upd s.low v (s.idx z), C := (v, a + 1) :: cs }, rfl, ?_⟩)
  · rw [HC.out]
    exact tW_bump ha
  · obtain ⟨e1, e3, e4, e5, e8, e9, e41, e42, t0, t1, t2, t3, t4, t5⟩ := HK.out
    exact ⟨rfl, rfl, rfl, rfl, e8, e9, e41, e42, t0, t1.step_low HZ.out.2 HC.out ha HZ.out.1 hlow, t2, t3, (((t4.drewN _).setCalls (HCA.out.drewN _) _ _).drewN _).setLw v _, (((HCA.out.drewN _).setArc (a + 1) _ rfl).drewN _).below (by show w.heap.size + 1 + 1 < _; omega) _⟩

end Go.Proofs.Qxb6600028a
