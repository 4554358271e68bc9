import Derived.Test.Qxb6600028aCalls
namespace Go.Proofs.Qxb6600028a
open Go.RowKit Go.Deep

set_option maxRecDepth 100000 in
set_option maxHeartbeats 1000000 in
theorem calls_ret_low (w : World) (nv : Value) (sb s0 sc : Nat) (g : Gr) (n q : Nat) (s : TS) (f : Nat → Value) (wr : World) (hK3 : K3 w nv (.slice (some ⟨sb, s0, none⟩) n sc) g n q s f wr) (v a : Nat) (cs : List (Nat × Nat)) (hC : s.C = (v, a) :: cs)
    (_hn : n ≤ 1048576) (hvn : v < n) (ha : a = g.L v) (_hL : g.L v ≤ 1048576) (ra : Option Addr) (rc : Nat) (hrow : wr.cell? ⟨sb, s0 + v, none⟩ = some (.slice ra (g.L v) rc)) (p b : Nat) (cs' : List (Nat × Nat)) (hcs : cs = (p, b) :: cs') (hpn : p < n) (hlow : s.low v < s.low p)
    (J : Nat → (Nat → Value) → World → Prop) (K X : Act → World → Prop) (hJ : ∀ k f w', I3 w nv (.slice (some ⟨sb, s0, none⟩) n sc) g n q k f w' → J k f w') (hK : ∀ a' w', EndI 257 J (tW g s.idx s.C) a' w' → K a' w') :
    Code.wp Try.prog ((loops (Try.f28.body.getD .skip))[2]?.getD .skip) (Exit.then K (Q3 X)) (mkA 257 f) wr := by
  conv => arg 2; whnf
  rw [mkA_257]
  have hca := hK3.ca
  rw [hC] at hca
  obtain ⟨gc, cap, h11, hgb, hglt, hlc, hcm, c1, c2, c3, hpop⟩ := hca.top
  rw [h11] at hca
  have hbd := hK3.bound
  have hb1 : wr.cell? ⟨w.heap.size, 1, none⟩ = some (.slice (some ⟨sb, s0, none⟩) n sc) := by simpa using hK3.tm.box.cell (i := 1) (by omega)
  rw [hC, List.length_cons] at hbd
  obtain ⟨hb2, hb3, hb4⟩ := hbd
  unfold maxLen at hcm
  have HJ : Hid (∀ k f w', I3 w nv (.slice (some ⟨sb, s0, none⟩) n sc) g n q k f w' → J k f w') := hJ
  clear hJ
  subst hcs
  obtain ⟨_, _, h11', _, _, _, _, d1, d2, _, _⟩ := hpop.top
  rw [List.length_cons] at *
  simp only [Value.slice.injEq, Option.some.injEq, Addr.mk.injEq, and_true, true_and] at h11'
  obtain ⟨rfl, rfl⟩ := h11'
  have hne : s.low v ≠ s.idx v := fun e => hK3.ti.root_low hC e hlow
  have x0 : (s.low v != s.idx v) = true := by simpa using hne
  have hpv : ¬ v = p := fun e => by rw [e] at hlow; omega
  have HPQ : Hid (∀ (W : World) (x : Value), (W.setCell ⟨w.heap.size + 1 + 1, p, none⟩ x).cell? ⟨w.heap.size + 1 + 1, v, none⟩ = W.cell? ⟨w.heap.size + 1 + 1, v, none⟩) := fun W x => cell_setCell_ne W _ v p x hpv
  clear hpv
  have x1 : wr.cell? ⟨w.heap.size + 1, v, none⟩ = some (.int .i64 (s.idx v)) := hK3.tm.ix.cell hvn
  have l1 : wr.cell? ⟨w.heap.size + 1 + 1, v, none⟩ = some (.int .i64 (s.low v)) := hK3.tm.lw.cell hvn
  have l3 : wr.cell? ⟨w.heap.size + 1 + 1, p, none⟩ = some (.int .i64 (s.low p)) := hK3.tm.lw.cell hpn
  have l4 : wr.frozen? ⟨w.heap.size + 1 + 1, p, none⟩ = false := hK3.tm.lw.frozen p
  rw [h11, hK3.f1, hK3.f3, hK3.f4, hK3.f5]
  have HK : Hid (K3 w nv (.slice (some ⟨sb, s0, none⟩) n sc) g n q s f wr) := hK3
  have HC : Hid (s.C = (v, a) :: (p, b) :: cs') := hC
  have HP : Hid (CA w wr (.slice (some ⟨gc, 0, none⟩) (cs'.length + 1) cap) ((p, b) :: cs')) := hpop
  have HA : Hid (a = g.L v ∧ s.low v ≠ s.idx v) := ⟨ha, hne⟩
  clear hK3 hca h11 hC hpop hne
  have hle : g.L v ≤ a := by omega
  clear ha
  have g0 : (0 : Int) < (cs'.length : Int) + 1 := by omega
  have hwr : IntKind.i64.wrap (cs'.length : Int) = (cs'.length : Int) := by rw [IntKind.wrap_i64]; omega
  have hlt1 : (cs'.length : Int) < (cs'.length : Int) + 1 := by omega
  go_wp2
  go_quiet (fail)
  go_wp2
  go_quiet (fail)
  go_wp2
  generalize hw5 : World.drewN (World.drewN wr _) _ = w5
  have HM5 : Hid (TM w w5 nv (.slice (some ⟨sb, s0, none⟩) n sc) n s.idx s.low s.onS s.S (f 7)) := by rw [← hw5]; exact (HK.out.tm.drewN _).drewN _
  have HC5 : Hid (CA w w5 (.slice (some ⟨gc, 0, none⟩) (cs'.length + 1) cap) ((p, b) :: cs')) := by rw [← hw5]; exact (HP.out.drewN _).drewN _
  have e1 : w5.cell? ⟨gc, cs'.length * 2, none⟩ = some (.int .i64 p) := by rw [← hw5]; exact d1
  have e2 : w5.cell? ⟨w.heap.size + 1 + 1, v, none⟩ = some (.int .i64 (s.low v)) := by rw [← hw5]; exact l1
  have e3 : w5.cell? ⟨w.heap.size + 1 + 1, p, none⟩ = some (.int .i64 (s.low p)) := by rw [← hw5]; exact l3
  have e4 : w5.frozen? ⟨w.heap.size + 1 + 1, p, none⟩ = false := by rw [← hw5]; exact l4
  have HX5 : Hid (w5.cell? ⟨w.heap.size + 1, v, none⟩ = some (.int .i64 (s.idx v))) := by rw [← hw5]; exact x1
  clear hw5 c1 c2 c3 d1 d2 l1 l3 l4 x1 hb1 hrow
  go_region
  have hpq := HPQ.out
  have x5 := HX5.out
  go_wp2
  go_quiet (fail)
  go_wp2
  refine EndI.intro (tW g s.idx ((p, b) :: cs')) ?_ rfl rfl (HJ.out _ _ _ ⟨{ s with C := (p, b) :: cs', low := lowMin s.low v ((p, b) :: cs') }, rfl, ?_⟩)
  · rw [HC.out]
    exact tW_pop
  · obtain ⟨e1, e3, e4, e5, e8, e9, e41, e42, t0, t1, t2, t3, t4, t5⟩ := HK.out
    have el : lowMin s.low v ((p, b) :: cs') = upd s.low p (s.low v) := by simp only [lowMin]; rw [if_pos hlow]
    refine ⟨rfl, rfl, rfl, rfl, e8, e9, e41, e42, t0, t1.popN HC.out HA.out.1 HA.out.2, t2, t3, ?_, HC5.out.below (by show w.heap.size + 1 + 1 < _; omega) _⟩
    show TM w _ nv (.slice (some ⟨sb, s0, none⟩) n sc) n s.idx (lowMin s.low v ((p, b) :: cs')) s.onS s.S (f 7)
    rw [el]
    exact ((HM5.out.setLw p _).drewN 1).drewN _

set_option maxRecDepth 100000 in
set_option maxHeartbeats 1000000 in
theorem calls_ret_keep (w : World) (nv : Value) (sb s0 sc : Nat) (g : Gr) (n q : Nat) (s : TS) (f : Nat → Value) (wr : World) (hK3 : K3 w nv (.slice (some ⟨sb, s0, none⟩) n sc) g n q s f wr) (v a : Nat) (cs : List (Nat × Nat)) (hC : s.C = (v, a) :: cs)
    (_hn : n ≤ 1048576) (hvn : v < n) (ha : a = g.L v) (_hL : g.L v ≤ 1048576) (ra : Option Addr) (rc : Nat) (hrow : wr.cell? ⟨sb, s0 + v, none⟩ = some (.slice ra (g.L v) rc)) (p b : Nat) (cs' : List (Nat × Nat)) (hcs : cs = (p, b) :: cs') (hpn : p < n) (hlow : s.low p ≤ s.low v) (hne : s.low v ≠ s.idx v)
    (J : Nat → (Nat → Value) → World → Prop) (K X : Act → World → Prop) (hJ : ∀ k f w', I3 w nv (.slice (some ⟨sb, s0, none⟩) n sc) g n q k f w' → J k f w') (hK : ∀ a' w', EndI 257 J (tW g s.idx s.C) a' w' → K a' w') :
    Code.wp Try.prog ((loops (Try.f28.body.getD .skip))[2]?.getD .skip) (Exit.then K (Q3 X)) (mkA 257 f) wr := by
  conv => arg 2; whnf
  rw [mkA_257]
  have hca := hK3.ca
  rw [hC] at hca
  obtain ⟨gc, cap, h11, hgb, hglt, hlc, hcm, c1, c2, c3, hpop⟩ := hca.top
  rw [h11] at hca
  have hbd := hK3.bound
  have hb1 : wr.cell? ⟨w.heap.size, 1, none⟩ = some (.slice (some ⟨sb, s0, none⟩) n sc) := by simpa using hK3.tm.box.cell (i := 1) (by omega)
  rw [hC, List.length_cons] at hbd
  obtain ⟨hb2, hb3, hb4⟩ := hbd
  unfold maxLen at hcm
  have HJ : Hid (∀ k f w', I3 w nv (.slice (some ⟨sb, s0, none⟩) n sc) g n q k f w' → J k f w') := hJ
  clear hJ
  subst hcs
  obtain ⟨_, _, h11', _, _, _, _, d1, d2, _, _⟩ := hpop.top
  rw [List.length_cons] at *
  simp only [Value.slice.injEq, Option.some.injEq, Addr.mk.injEq, and_true, true_and] at h11'
  obtain ⟨rfl, rfl⟩ := h11'
  have x0 : (s.low v != s.idx v) = true := by simpa using hne
  have x1 : wr.cell? ⟨w.heap.size + 1, v, none⟩ = some (.int .i64 (s.idx v)) := hK3.tm.ix.cell hvn
  have l1 : wr.cell? ⟨w.heap.size + 1 + 1, v, none⟩ = some (.int .i64 (s.low v)) := hK3.tm.lw.cell hvn
  have l3 : wr.cell? ⟨w.heap.size + 1 + 1, p, none⟩ = some (.int .i64 (s.low p)) := hK3.tm.lw.cell hpn
  rw [h11, hK3.f1, hK3.f3, hK3.f4, hK3.f5]
  have HK : Hid (K3 w nv (.slice (some ⟨sb, s0, none⟩) n sc) g n q s f wr) := hK3
  have HC : Hid (s.C = (v, a) :: (p, b) :: cs') := hC
  have HP : Hid (CA w wr (.slice (some ⟨gc, 0, none⟩) (cs'.length + 1) cap) ((p, b) :: cs')) := hpop
  have HA : Hid (a = g.L v ∧ s.low v ≠ s.idx v) := ⟨ha, hne⟩
  clear hK3 hca h11 hC hpop hne
  have hle : g.L v ≤ a := by omega
  clear ha
  have g0 : (0 : Int) < (cs'.length : Int) + 1 := by omega
  go_wp2
  go_quiet (fail)
  go_wp2
  go_quiet (fail)
  go_wp2
  go_quiet (fail)
  go_wp2
  refine EndI.intro (tW g s.idx ((p, b) :: cs')) ?_ rfl rfl (HJ.out _ _ _ ⟨{ s with C := (p, b) :: cs', low := lowMin s.low v ((p, b) :: cs') }, rfl, ?_⟩)
  · rw [HC.out]
    exact tW_pop
  · obtain ⟨e1, e3, e4, e5, e8, e9, e41, e42, t0, t1, t2, t3, t4, t5⟩ := HK.out
    have el : lowMin s.low v ((p, b) :: cs') = s.low := by simp only [lowMin]; rw [if_neg (by omega)]
    refine ⟨rfl, rfl, rfl, rfl, e8, e9, e41, e42, t0, t1.popN HC.out HA.out.1 HA.out.2, t2, t3, ?_, HP.out⟩
    show TM w _ nv (.slice (some ⟨sb, s0, none⟩) n sc) n s.idx (lowMin s.low v ((p, b) :: cs')) s.onS s.S (f 7)
    rw [el]
    exact ((t4.drewN _).drewN _).drewN _

def clr (onS : Nat → Bool) (l : List Nat) (x : Nat) : Bool := if x ∈ l then false else onS x
theorem clr_snoc (onS : Nat → Bool) (l : List Nat) (x j : Nat) : upd (clr onS l) x false j = clr onS (l ++ [x]) j := by
  unfold upd clr
  by_cases e : j = x
  · subst e; simp
  · simp [e]

set_option maxRecDepth 100000 in
set_option maxHeartbeats 1600000 in
theorem calls_root_last (w : World) (nv : Value) (sb s0 sc : Nat) (g : Gr) (n q : Nat) (s : TS) (f : Nat → Value) (wr : World) (hK3 : K3 w nv (.slice (some ⟨sb, s0, none⟩) n sc) g n q s f wr) (v a : Nat) (cs : List (Nat × Nat)) (hC : s.C = (v, a) :: cs)
    (_hn : n ≤ 1048576) (hvn : v < n) (ha : a = g.L v) (_hL : g.L v ≤ 1048576) (ra : Option Addr) (rc : Nat) (hrow : wr.cell? ⟨sb, s0 + v, none⟩ = some (.slice ra (g.L v) rc)) (ok : GOk g) (hcs : cs = []) (hroot : s.low v = s.idx v) (pre rest : List Nat) (hS : s.S = pre ++ v :: rest)
    (J : Nat → (Nat → Value) → World → Prop) (K X : Act → World → Prop) (hJ : ∀ k f w', I3 w nv (.slice (some ⟨sb, s0, none⟩) n sc) g n q k f w' → J k f w') (hK : ∀ a' w', EndI 257 J (tW g s.idx s.C) a' w' → K a' w') :
    Code.wp Try.prog ((loops (Try.f28.body.getD .skip))[2]?.getD .skip) (Exit.then K (Q3 X)) (mkA 257 f) wr := by
  conv => arg 2; whnf
  rw [mkA_257]
  have hca := hK3.ca
  rw [hC] at hca
  obtain ⟨gc, cap, h11, hgb, hglt, hlc, hcm, c1, c2, c3, hpop⟩ := hca.top
  rw [h11] at hca
  have hbd := hK3.bound
  have hb1 : wr.cell? ⟨w.heap.size, 1, none⟩ = some (.slice (some ⟨sb, s0, none⟩) n sc) := by simpa using hK3.tm.box.cell (i := 1) (by omega)
  rw [hC, List.length_cons] at hbd
  obtain ⟨hb2, hb3, hb4⟩ := hbd
  unfold maxLen at hcm
  have HJ : Hid (∀ k f w', I3 w nv (.slice (some ⟨sb, s0, none⟩) n sc) g n q k f w' → J k f w') := hJ
  clear hJ
  have hpl : pre.length ≤ 1048576 := by
    have h1 := congrArg List.length hS
    simp only [List.length_append, List.length_cons] at h1
    omega
  have hpn : ∀ x, x ∈ pre → x < n := fun x hx => by
    have := (hK3.ti.sn x (by rw [hS]; simp [hx])).1
    rw [hK3.gn] at this
    exact this
  have hpv : ∀ x, x ∈ pre → x ≠ v := fun x hx e => by
    have hpw := hK3.ti.sdec
    rw [hS] at hpw
    have := (List.pairwise_append.1 hpw).2.2 x hx v (by simp)
    rw [e] at this
    omega
  have x0 : (s.low v != s.idx v) = false := by simpa using hroot
  have x1 : wr.cell? ⟨w.heap.size + 1, v, none⟩ = some (.int .i64 (s.idx v)) := hK3.tm.ix.cell hvn
  have l1 : wr.cell? ⟨w.heap.size + 1 + 1, v, none⟩ = some (.int .i64 (s.low v)) := hK3.tm.lw.cell hvn
  subst hcs
  rw [List.length_nil] at *
  rw [h11, hK3.f1, hK3.f3, hK3.f4, hK3.f5, hK3.f9]
  have HK : Hid (K3 w nv (.slice (some ⟨sb, s0, none⟩) n sc) g n q s f wr) := hK3
  have HC : Hid (s.C = (v, a) :: []) := hC
  have HP : Hid (CA w wr (.slice (some ⟨gc, 0, none⟩) 0 cap) []) := hpop
  have HA : Hid (a = g.L v ∧ s.low v = s.idx v) := ⟨ha, hroot⟩
  have HS : Hid (s.S = pre ++ v :: rest) := hS
  have HG : Hid (GOk g) := ok
  clear hK3 hca h11 hC hpop hroot hS ok
  have hle : g.L v ≤ a := by omega
  clear ha
  go_wp2
  go_quiet (fail)
  go_wp2
  go_quiet (fail)
  go_wp2
  go_quiet (fail)
  go_wp2
  generalize hw6 : World.drewN (World.drewN (World.drewN wr _) _) _ = w6
  have HM6 : TM w w6 nv (.slice (some ⟨sb, s0, none⟩) n sc) n s.idx s.low (clr s.onS []) (pre ++ v :: rest) (f 7) := by
    rw [← hw6]
    refine TM.congrOs (onS := s.onS) ?_ (fun j => by simp [clr])
    rw [← HS.out]
    exact ((HK.out.tm.drewN _).drewN _).drewN _
  have HC6 : CA w w6 (.slice (some ⟨gc, 0, none⟩) 0 cap) [] := by rw [← hw6]; exact HP.out
  clear hw6 c1 c2 c3 x1 l1 hb1 hrow
  go_loopg [7, 15, 16] pre.length (fun gk vS' ct le wx => ∃ (don todo : List Nat) (m : Nat), Hid (pre = don ++ todo ∧ m = leastL v don) ∧ gk = todo.length ∧ don.length + todo.length ≤ 1048576 ∧ m ≤ v ∧ ct = .int .i64 don.length ∧ le = .int .i64 m ∧
    TM w wx nv (.slice (some ⟨sb, s0, none⟩) n sc) n s.idx s.low (clr s.onS don) (todo ++ v :: rest) vS' ∧ CA w wx (.slice (some ⟨gc, 0, none⟩) 0 cap) [])
  case atStart => exact ⟨[], pre, v, ⟨rfl, rfl⟩, rfl, by simpa using hpl, Nat.le_refl _, rfl, rfl, HM6, HC6⟩
  case round =>
    clear HM6 HC6
    obtain ⟨don, todo, m, hH, rfl, hdl, hmv, rfl, rfl, hTM, hCA⟩ := hrel
    cases todo with
    | cons x t =>
      have hxn : x < n := hpn x (by rw [hH.out.1]; simp)
      have hxv : ((x : Int) == (v : Int)) = false := by
        have : x ≠ v := hpv x (by rw [hH.out.1]; simp)
        simp only [beq_eq_false_iff_ne, ne_eq, Int.natCast_inj]; exact this
      have hrl : t.length + rest.length + 2 ≤ 1048576 := by
        have h1 := congrArg List.length HS.out
        have h2 := congrArg List.length hH.out.1
        simp only [List.length_append, List.length_cons] at h1 h2
        omega
      rw [List.cons_append] at hTM
      obtain ⟨gs, scp, hvS, hsc, hsm, hgs, hcell, hTM'⟩ := hTM.top
      have htl : (t ++ v :: rest).length = t.length + rest.length + 1 := by simp only [List.length_append, List.length_cons]; omega
      rw [htl] at hvS hsc hcell hTM'
      subst hvS
      have o1 : wr.cell? ⟨w.heap.size + 1 + 1 + 1, x, none⟩ = some (.bool (clr s.onS don x)) := hTM'.os.cell hxn
      have o2 : wr.frozen? ⟨w.heap.size + 1 + 1 + 1, x, none⟩ = false := hTM'.os.frozen x
      have HTM : Hid (TM w (wr.setCell ⟨w.heap.size + 1 + 1 + 1, x, none⟩ (.bool false)) nv (.slice (some ⟨sb, s0, none⟩) n sc) n s.idx s.low (clr s.onS (don ++ [x])) (t ++ v :: rest) (.slice (some ⟨gs, 0, none⟩) (t.length + rest.length + 1) scp)) :=
        (hTM'.setOs x false).congrOs (fun j => clr_snoc s.onS don x j)
      have HCA' : Hid (CA w (wr.setCell ⟨w.heap.size + 1 + 1 + 1, x, none⟩ (.bool false)) (.slice (some ⟨gc, 0, none⟩) 0 cap) []) := hCA.below (by show w.heap.size + 1 + 1 + 1 < _; omega) _
      unfold maxLen at hsm
      clear hTM hTM' hCA htl
      rw [List.length_cons] at hdl
      by_cases hxm : x < m
      · go_wp2
        go_roundg (t.length)
        case measure => rw [List.length_cons]; omega
        case rel => exact ⟨don ++ [x], t, x, ⟨by rw [hH.out.1]; simp, by rw [leastL_snoc, ← hH.out.2, if_pos hxm]⟩, rfl, by rw [List.length_append]; simp only [List.length_cons, List.length_nil]; omega, by omega, by rw [List.length_append]; simp only [List.length_cons, List.length_nil]; go_num, rfl, HTM.out, HCA'.out⟩
      · go_wp2
        go_roundg (t.length)
        case measure => rw [List.length_cons]; omega
        case rel => exact ⟨don ++ [x], t, m, ⟨by rw [hH.out.1]; simp, by rw [leastL_snoc, ← hH.out.2, if_neg hxm]⟩, rfl, by rw [List.length_append]; simp only [List.length_cons, List.length_nil]; omega, hmv, by rw [List.length_append]; simp only [List.length_cons, List.length_nil]; go_num, rfl, HTM.out, HCA'.out⟩
    | nil =>
      rw [List.nil_append] at hTM
      rw [List.append_nil] at hH
      have hrl : rest.length + 1 ≤ 1048576 := by
        have h1 := congrArg List.length HS.out
        simp only [List.length_append, List.length_cons] at h1
        omega
      have hvv : ((v : Int) == (v : Int)) = true := by simp
      obtain ⟨gs, scp, rfl, hsc, hsm, hgs, hcell, hTM'⟩ := hTM.top
      have o1 : wr.cell? ⟨w.heap.size + 1 + 1 + 1, v, none⟩ = some (.bool (clr s.onS don v)) := hTM'.os.cell hvn
      have o2 : wr.frozen? ⟨w.heap.size + 1 + 1 + 1, v, none⟩ = false := hTM'.os.frozen v
      have HTM : Hid (TM w (wr.setCell ⟨w.heap.size + 1 + 1 + 1, v, none⟩ (.bool false)) nv (.slice (some ⟨sb, s0, none⟩) n sc) n s.idx s.low (clr s.onS (don ++ [v])) rest (.slice (some ⟨gs, 0, none⟩) rest.length scp)) :=
        (hTM'.setOs v false).congrOs (fun j => clr_snoc s.onS don v j)
      have HCA' : Hid (CA w (wr.setCell ⟨w.heap.size + 1 + 1 + 1, v, none⟩ (.bool false)) (.slice (some ⟨gc, 0, none⟩) 0 cap) []) := hCA.below (by show w.heap.size + 1 + 1 + 1 < _; omega) _
      unfold maxLen at hsm
      clear hTM hTM' hCA
      have HF : Hid (∀ (l' : Int) (a' : Act), a'.tmps.size = 257 → a'.defers = [] → lstNext s.lst v (pre ++ [v]) = l' → slot a' 1 = .pointer (some ⟨w.heap.size, 0, none⟩) → slot a' 3 = .slice (some ⟨w.heap.size + 1, 0, none⟩) n n →
          slot a' 4 = .slice (some ⟨w.heap.size + 1 + 1, 0, none⟩) n n → slot a' 5 = .slice (some ⟨w.heap.size + 1 + 1 + 1, 0, none⟩) n n → slot a' 8 = f 8 → slot a' 9 = .int .i64 l' → slot a' 41 = f 41 → slot a' 42 = f 42 → slot a' 7 = .slice (some ⟨gs, 0, none⟩) rest.length scp →
          slot a' 11 = .slice (some ⟨gc, 0, none⟩) 0 cap → EndI 257 J (tW g s.idx s.C) a' (wr.setCell ⟨w.heap.size + 1 + 1 + 1, v, none⟩ (.bool false))) := by
        intro l' a' hsz hdf hl' h1 h3 h4 h5 h8 h9 h41 h42 h7 h11
        refine EndI.intro (tW g s.idx []) ?_ hsz hdf (HJ.out _ _ _ ⟨{ s with C := [], S := rest, onS := clr s.onS (don ++ [v]), lst := lstNext s.lst v (pre ++ [v]) }, rfl, ?_⟩)
        · rw [HC.out]
          exact tW_pop
        · obtain ⟨e1, e3, e4, e5, e8, e9, e41, e42, t0, t1, t2, t3, t4, t5⟩ := HK.out
          refine ⟨h1, h3, h4, h5, h8.trans e8, by rw [h9, ← hl'], h41.trans e41, h42.trans e42, t0, ?_, t2, t3, by rw [h7]; exact HTM.out, by rw [h11]; exact HCA'.out⟩
          refine t1.popR HG.out HC.out HA.out.1 HA.out.2 HS.out _ (fun x _ => ?_)
          rw [hH.out.1]
          rfl
      have hml : leastL v (pre ++ [v]) = m := by rw [leastL_snoc, hH.out.1, ← hH.out.2, if_neg (by omega)]
      have hpl' : (pre ++ [v]).length = don.length + 1 := by rw [hH.out.1, List.length_append]; rfl
      by_cases k1 : 0 < don.length
      · by_cases k2 : s.lst < 0
        · have HL : Hid (lstNext s.lst v (pre ++ [v]) = m) := by unfold Hid lstNext; rw [hml, hpl', if_pos ⟨by omega, Or.inl k2⟩]
          clear hml hpl'
          go_wp2
          exact HF.out _ _ rfl rfl HL.out rfl rfl rfl rfl rfl rfl rfl rfl rfl rfl
        · by_cases k3 : (m : Int) < s.lst
          · have HL : Hid (lstNext s.lst v (pre ++ [v]) = m) := by unfold Hid lstNext; rw [hml, hpl', if_pos ⟨by omega, Or.inr k3⟩]
            clear hml hpl'
            go_wp2
            exact HF.out _ _ rfl rfl HL.out rfl rfl rfl rfl rfl rfl rfl rfl rfl rfl
          · have HL : Hid (lstNext s.lst v (pre ++ [v]) = s.lst) := by unfold Hid lstNext; rw [hml, hpl', if_neg (by rintro ⟨_, h | h⟩ <;> omega)]
            clear hml hpl'
            go_wp2
            exact HF.out _ _ rfl rfl HL.out rfl rfl rfl rfl rfl rfl rfl rfl rfl rfl
      · have HL : Hid (lstNext s.lst v (pre ++ [v]) = s.lst) := by unfold Hid lstNext; rw [hml, hpl', if_neg (by rintro ⟨h, _⟩; omega)]
        clear hml hpl'
        go_wp2
        exact HF.out _ _ rfl rfl HL.out rfl rfl rfl rfl rfl rfl rfl rfl rfl rfl

set_option maxRecDepth 100000 in
set_option maxHeartbeats 1600000 in
theorem calls_root_more (w : World) (nv : Value) (sb s0 sc : Nat) (g : Gr) (n q : Nat) (s : TS) (f : Nat → Value) (wr : World) (hK3 : K3 w nv (.slice (some ⟨sb, s0, none⟩) n sc) g n q s f wr) (v a : Nat) (cs : List (Nat × Nat)) (hC : s.C = (v, a) :: cs)
    (_hn : n ≤ 1048576) (hvn : v < n) (ha : a = g.L v) (_hL : g.L v ≤ 1048576) (ra : Option Addr) (rc : Nat) (hrow : wr.cell? ⟨sb, s0 + v, none⟩ = some (.slice ra (g.L v) rc)) (ok : GOk g) (p b : Nat) (cs' : List (Nat × Nat)) (hcs : cs = (p, b) :: cs') (hpn' : p < n) (hlow : s.low p ≤ s.low v) (hroot : s.low v = s.idx v) (pre rest : List Nat) (hS : s.S = pre ++ v :: rest)
    (J : Nat → (Nat → Value) → World → Prop) (K X : Act → World → Prop) (hJ : ∀ k f w', I3 w nv (.slice (some ⟨sb, s0, none⟩) n sc) g n q k f w' → J k f w') (hK : ∀ a' w', EndI 257 J (tW g s.idx s.C) a' w' → K a' w') :
    Code.wp Try.prog ((loops (Try.f28.body.getD .skip))[2]?.getD .skip) (Exit.then K (Q3 X)) (mkA 257 f) wr := by
  conv => arg 2; whnf
  rw [mkA_257]
  have hca := hK3.ca
  rw [hC] at hca
  obtain ⟨gc, cap, h11, hgb, hglt, hlc, hcm, c1, c2, c3, hpop⟩ := hca.top
  rw [h11] at hca
  have hbd := hK3.bound
  have hb1 : wr.cell? ⟨w.heap.size, 1, none⟩ = some (.slice (some ⟨sb, s0, none⟩) n sc) := by simpa using hK3.tm.box.cell (i := 1) (by omega)
  rw [hC, List.length_cons] at hbd
  obtain ⟨hb2, hb3, hb4⟩ := hbd
  unfold maxLen at hcm
  have HJ : Hid (∀ k f w', I3 w nv (.slice (some ⟨sb, s0, none⟩) n sc) g n q k f w' → J k f w') := hJ
  clear hJ
  have hpl : pre.length ≤ 1048576 := by
    have h1 := congrArg List.length hS
    simp only [List.length_append, List.length_cons] at h1
    omega
  have hpn : ∀ x, x ∈ pre → x < n := fun x hx => by
    have := (hK3.ti.sn x (by rw [hS]; simp [hx])).1
    rw [hK3.gn] at this
    exact this
  have hpv : ∀ x, x ∈ pre → x ≠ v := fun x hx e => by
    have hpw := hK3.ti.sdec
    rw [hS] at hpw
    have := (List.pairwise_append.1 hpw).2.2 x hx v (by simp)
    rw [e] at this
    omega
  have x0 : (s.low v != s.idx v) = false := by simpa using hroot
  have x1 : wr.cell? ⟨w.heap.size + 1, v, none⟩ = some (.int .i64 (s.idx v)) := hK3.tm.ix.cell hvn
  have l1 : wr.cell? ⟨w.heap.size + 1 + 1, v, none⟩ = some (.int .i64 (s.low v)) := hK3.tm.lw.cell hvn
  subst hcs
  obtain ⟨_, _, h11', _, _, _, _, d1, d2, _, _⟩ := hpop.top
  rw [List.length_cons] at *
  simp only [Value.slice.injEq, Option.some.injEq, Addr.mk.injEq, and_true, true_and] at h11'
  obtain ⟨rfl, rfl⟩ := h11'
  have l3 : wr.cell? ⟨w.heap.size + 1 + 1, p, none⟩ = some (.int .i64 (s.low p)) := hK3.tm.lw.cell hpn'
  rw [h11, hK3.f1, hK3.f3, hK3.f4, hK3.f5, hK3.f9]
  have HK : Hid (K3 w nv (.slice (some ⟨sb, s0, none⟩) n sc) g n q s f wr) := hK3
  have HC : Hid (s.C = (v, a) :: (p, b) :: cs') := hC
  have HP : Hid (CA w wr (.slice (some ⟨gc, 0, none⟩) (cs'.length + 1) cap) ((p, b) :: cs')) := hpop
  have HA : Hid (a = g.L v ∧ s.low v = s.idx v) := ⟨ha, hroot⟩
  have HS : Hid (s.S = pre ++ v :: rest) := hS
  have HG : Hid (GOk g) := ok
  clear hK3 hca h11 hC hpop hroot hS ok
  have hle : g.L v ≤ a := by omega
  clear ha
  have g0 : (0 : Int) < (cs'.length : Int) + 1 := by omega
  go_wp2
  go_quiet (fail)
  go_wp2
  go_quiet (fail)
  go_wp2
  go_quiet (fail)
  go_wp2
  generalize hw6 : World.drewN (World.drewN (World.drewN wr _) _) _ = w6
  have HM6 : TM w w6 nv (.slice (some ⟨sb, s0, none⟩) n sc) n s.idx s.low (clr s.onS []) (pre ++ v :: rest) (f 7) := by
    rw [← hw6]
    refine TM.congrOs (onS := s.onS) ?_ (fun j => by simp [clr])
    rw [← HS.out]
    exact ((HK.out.tm.drewN _).drewN _).drewN _
  have HC6 : CA w w6 (.slice (some ⟨gc, 0, none⟩) (cs'.length + 1) cap) ((p, b) :: cs') := by rw [← hw6]; exact HP.out
  clear hw6 d1 d2 l3 c1 c2 c3 x1 l1 hb1 hrow
  go_loopg [7, 15, 16] pre.length (fun gk vS' ct le wx => ∃ (don todo : List Nat) (m : Nat), Hid (pre = don ++ todo ∧ m = leastL v don) ∧ gk = todo.length ∧ don.length + todo.length ≤ 1048576 ∧ m ≤ v ∧ ct = .int .i64 don.length ∧ le = .int .i64 m ∧
    TM w wx nv (.slice (some ⟨sb, s0, none⟩) n sc) n s.idx s.low (clr s.onS don) (todo ++ v :: rest) vS' ∧ CA w wx (.slice (some ⟨gc, 0, none⟩) (cs'.length + 1) cap) ((p, b) :: cs'))
  case atStart => exact ⟨[], pre, v, ⟨rfl, rfl⟩, rfl, by simpa using hpl, Nat.le_refl _, rfl, rfl, HM6, HC6⟩
  case round =>
    clear HM6 HC6
    obtain ⟨don, todo, m, hH, rfl, hdl, hmv, rfl, rfl, hTM, hCA⟩ := hrel
    cases todo with
    | cons x t =>
      have hxn : x < n := hpn x (by rw [hH.out.1]; simp)
      have hxv : ((x : Int) == (v : Int)) = false := by
        have : x ≠ v := hpv x (by rw [hH.out.1]; simp)
        simp only [beq_eq_false_iff_ne, ne_eq, Int.natCast_inj]; exact this
      have hrl : t.length + rest.length + 2 ≤ 1048576 := by
        have h1 := congrArg List.length HS.out
        have h2 := congrArg List.length hH.out.1
        simp only [List.length_append, List.length_cons] at h1 h2
        omega
      rw [List.cons_append] at hTM
      obtain ⟨gs, scp, hvS, hsc, hsm, hgs, hcell, hTM'⟩ := hTM.top
      have htl : (t ++ v :: rest).length = t.length + rest.length + 1 := by simp only [List.length_append, List.length_cons]; omega
      rw [htl] at hvS hsc hcell hTM'
      subst hvS
      have o1 : wr.cell? ⟨w.heap.size + 1 + 1 + 1, x, none⟩ = some (.bool (clr s.onS don x)) := hTM'.os.cell hxn
      have o2 : wr.frozen? ⟨w.heap.size + 1 + 1 + 1, x, none⟩ = false := hTM'.os.frozen x
      have HTM : Hid (TM w (wr.setCell ⟨w.heap.size + 1 + 1 + 1, x, none⟩ (.bool false)) nv (.slice (some ⟨sb, s0, none⟩) n sc) n s.idx s.low (clr s.onS (don ++ [x])) (t ++ v :: rest) (.slice (some ⟨gs, 0, none⟩) (t.length + rest.length + 1) scp)) :=
        (hTM'.setOs x false).congrOs (fun j => clr_snoc s.onS don x j)
      have HCA' : Hid (CA w (wr.setCell ⟨w.heap.size + 1 + 1 + 1, x, none⟩ (.bool false)) (.slice (some ⟨gc, 0, none⟩) (cs'.length + 1) cap) ((p, b) :: cs')) := hCA.below (by show w.heap.size + 1 + 1 + 1 < _; omega) _
      unfold maxLen at hsm
      clear hTM hTM' hCA htl
      rw [List.length_cons] at hdl
      by_cases hxm : x < m
      · go_wp2
        go_roundg (t.length)
        case measure => rw [List.length_cons]; omega
        case rel => exact ⟨don ++ [x], t, x, ⟨by rw [hH.out.1]; simp, by rw [leastL_snoc, ← hH.out.2, if_pos hxm]⟩, rfl, by rw [List.length_append]; simp only [List.length_cons, List.length_nil]; omega, by omega, by rw [List.length_append]; simp only [List.length_cons, List.length_nil]; go_num, rfl, HTM.out, HCA'.out⟩
      · go_wp2
        go_roundg (t.length)
        case measure => rw [List.length_cons]; omega
        case rel => exact ⟨don ++ [x], t, m, ⟨by rw [hH.out.1]; simp, by rw [leastL_snoc, ← hH.out.2, if_neg hxm]⟩, rfl, by rw [List.length_append]; simp only [List.length_cons, List.length_nil]; omega, hmv, by rw [List.length_append]; simp only [List.length_cons, List.length_nil]; go_num, rfl, HTM.out, HCA'.out⟩
    | nil =>
      rw [List.nil_append] at hTM
      rw [List.append_nil] at hH
      have hrl : rest.length + 1 ≤ 1048576 := by
        have h1 := congrArg List.length HS.out
        simp only [List.length_append, List.length_cons] at h1
        omega
      have hvv : ((v : Int) == (v : Int)) = true := by simp
      obtain ⟨gs, scp, rfl, hsc, hsm, hgs, hcell, hTM'⟩ := hTM.top
      have o1 : wr.cell? ⟨w.heap.size + 1 + 1 + 1, v, none⟩ = some (.bool (clr s.onS don v)) := hTM'.os.cell hvn
      have o2 : wr.frozen? ⟨w.heap.size + 1 + 1 + 1, v, none⟩ = false := hTM'.os.frozen v
      have HTM : Hid (TM w (wr.setCell ⟨w.heap.size + 1 + 1 + 1, v, none⟩ (.bool false)) nv (.slice (some ⟨sb, s0, none⟩) n sc) n s.idx s.low (clr s.onS (don ++ [v])) rest (.slice (some ⟨gs, 0, none⟩) rest.length scp)) :=
        (hTM'.setOs v false).congrOs (fun j => clr_snoc s.onS don v j)
      have HCA' : Hid (CA w (wr.setCell ⟨w.heap.size + 1 + 1 + 1, v, none⟩ (.bool false)) (.slice (some ⟨gc, 0, none⟩) (cs'.length + 1) cap) ((p, b) :: cs')) := hCA.below (by show w.heap.size + 1 + 1 + 1 < _; omega) _
      unfold maxLen at hsm
      clear hTM hTM' hCA
      have HF : Hid (∀ (l' : Int) (a' : Act), a'.tmps.size = 257 → a'.defers = [] → lstNext s.lst v (pre ++ [v]) = l' → slot a' 1 = .pointer (some ⟨w.heap.size, 0, none⟩) → slot a' 3 = .slice (some ⟨w.heap.size + 1, 0, none⟩) n n →
          slot a' 4 = .slice (some ⟨w.heap.size + 1 + 1, 0, none⟩) n n → slot a' 5 = .slice (some ⟨w.heap.size + 1 + 1 + 1, 0, none⟩) n n → slot a' 8 = f 8 → slot a' 9 = .int .i64 l' → slot a' 41 = f 41 → slot a' 42 = f 42 → slot a' 7 = .slice (some ⟨gs, 0, none⟩) rest.length scp →
          slot a' 11 = .slice (some ⟨gc, 0, none⟩) (cs'.length + 1) cap → EndI 257 J (tW g s.idx s.C) a' (wr.setCell ⟨w.heap.size + 1 + 1 + 1, v, none⟩ (.bool false))) := by
        intro l' a' hsz hdf hl' h1 h3 h4 h5 h8 h9 h41 h42 h7 h11
        refine EndI.intro (tW g s.idx ((p, b) :: cs')) ?_ hsz hdf (HJ.out _ _ _ ⟨{ s with C := (p, b) :: cs', S := rest, onS := clr s.onS (don ++ [v]), lst := lstNext s.lst v (pre ++ [v]) }, rfl, ?_⟩)
        · rw [HC.out]
          exact tW_pop
        · obtain ⟨e1, e3, e4, e5, e8, e9, e41, e42, t0, t1, t2, t3, t4, t5⟩ := HK.out
          refine ⟨h1, h3, h4, h5, h8.trans e8, by rw [h9, ← hl'], h41.trans e41, h42.trans e42, t0, ?_, t2, t3, by rw [h7]; exact HTM.out, by rw [h11]; exact HCA'.out⟩
          refine t1.popR HG.out HC.out HA.out.1 HA.out.2 HS.out _ (fun x _ => ?_)
          rw [hH.out.1]
          rfl
      have hml : leastL v (pre ++ [v]) = m := by rw [leastL_snoc, hH.out.1, ← hH.out.2, if_neg (by omega)]
      have hpl' : (pre ++ [v]).length = don.length + 1 := by rw [hH.out.1, List.length_append]; rfl
      by_cases k1 : 0 < don.length
      · by_cases k2 : s.lst < 0
        · have HL : Hid (lstNext s.lst v (pre ++ [v]) = m) := by unfold Hid lstNext; rw [hml, hpl', if_pos ⟨by omega, Or.inl k2⟩]
          clear hml hpl'
          go_wp2
          exact HF.out _ _ rfl rfl HL.out rfl rfl rfl rfl rfl rfl rfl rfl rfl rfl
        · by_cases k3 : (m : Int) < s.lst
          · have HL : Hid (lstNext s.lst v (pre ++ [v]) = m) := by unfold Hid lstNext; rw [hml, hpl', if_pos ⟨by omega, Or.inr k3⟩]
            clear hml hpl'
            go_wp2
            exact HF.out _ _ rfl rfl HL.out rfl rfl rfl rfl rfl rfl rfl rfl rfl rfl
          · have HL : Hid (lstNext s.lst v (pre ++ [v]) = s.lst) := by unfold Hid lstNext; rw [hml, hpl', if_neg (by rintro ⟨_, h | h⟩ <;> omega)]
            clear hml hpl'
            go_wp2
            exact HF.out _ _ rfl rfl HL.out rfl rfl rfl rfl rfl rfl rfl rfl rfl rfl
      · have HL : Hid (lstNext s.lst v (pre ++ [v]) = s.lst) := by unfold Hid lstNext; rw [hml, hpl', if_neg (by rintro ⟨h, _⟩; omega)]
        clear hml hpl'
        go_wp2
        exact HF.out _ _ rfl rfl HL.out rfl rfl rfl rfl rfl rfl rfl rfl rfl rfl

end Go.Proofs.Qxb6600028a
