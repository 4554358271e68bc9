import Derived.Test.Qxb6600028aRets
namespace Go.Proofs.Qxb6600028a
open Go.RowKit Go.Deep

/-- The rows of the graph, as the walk reads them. -/
def RowsA (w : World) (sb s0 : Nat) (g : Gr) (n : Nat) (R : Nat → Option Addr) (C rb ro : Nat → Nat) : Prop :=
  ∀ u, u < n → w.cell? ⟨sb, s0 + u, none⟩ = some (.slice (R u) (g.L u) (C u)) ∧ ∀ j, j < g.L u → R u = some ⟨rb u, ro u, none⟩ ∧ w.cell? ⟨rb u, ro u + j, none⟩ = some (.int .i64 (g.Z u j))

theorem RowsA.since {w w' : World} {sb s0 : Nat} {g : Gr} {n : Nat} {R : Nat → Option Addr} {C rb ro : Nat → Nat} (h : RowsA w sb s0 g n R C rb ro) (s : w.Since w.heap.size w') : RowsA w' sb s0 g n R C rb ro := by
  intro u hu
  obtain ⟨h1, h2⟩ := h u hu
  refine ⟨?_, fun j hj => ⟨(h2 j hj).1, ?_⟩⟩
  · rw [s.cell (a := ⟨sb, s0 + u, none⟩) (World.block_lt_of_cell? _ _ h1)]; exact h1
  · rw [s.cell (a := ⟨rb u, ro u + j, none⟩) (World.block_lt_of_cell? _ _ (h2 j hj).2)]; exact (h2 j hj).2

theorem calls_round (w : World) (nv : Value) (sb s0 sc : Nat) (g : Gr) (n q : Nat) (ok : GOk g) (hn : n ≤ 1048576) (hL : ∀ u, u < n → g.L u ≤ 1048576) (R : Nat → Option Addr) (C rb ro : Nat → Nat) (hR : RowsA w sb s0 g n R C rb ro)
    (k : Nat) (f : Nat → Value) (wr : World) (hI : I3 w nv (.slice (some ⟨sb, s0, none⟩) n sc) g n q k f wr) (J : Nat → (Nat → Value) → World → Prop) (K : Act → World → Prop)
    (hJ : ∀ k f w', I3 w nv (.slice (some ⟨sb, s0, none⟩) n sc) g n q k f w' → J k f w') (hK : ∀ a' w', EndI 257 J k a' w' → K a' w') :
    Code.wp Try.prog ((loops (Try.f28.body.getD .skip))[2]?.getD .skip) (Exit.then K (Q3 (X3 w nv (.slice (some ⟨sb, s0, none⟩) n sc) g n q))) (mkA 257 f) wr := by
  obtain ⟨s, rfl, h3⟩ := hI
  have hR' := hR.since h3.tm.since
  match hC : s.C with
  | [] => exact calls_exit w nv _ g n q s f wr h3 hC K
  | (v, a) :: cs =>
    have hmem : ∀ u b, (u, b) ∈ s.C → u < n := fun u b hm => by
      have := (h3.ti.sn u (h3.ti.cin u b hm).1).1
      rw [h3.gn] at this; exact this
    have hvn : v < n := hmem v a (by rw [hC]; simp)
    have hvS : v ∈ s.S := (h3.ti.cin v a (by rw [hC]; simp)).1
    have hale := (h3.ti.cin v a (by rw [hC]; simp)).2
    obtain ⟨hrow, hents⟩ := hR' v hvn
    by_cases ha : a < g.L v
    · obtain ⟨hRv, hz⟩ := hents a ha
      rw [hRv] at hrow
      have hzn : g.Z v a < n := by
        have := (ok.rng v (by rw [h3.gn]; exact hvn) a ha).1
        rw [h3.gn] at this; exact this
      by_cases hu : s.idx (g.Z v a) = -1
      · exact calls_new w nv sb s0 sc g n q s f wr h3 v a cs hC hn hvn ha (hL v hvn) _ _ _ hrow _ rfl hz hzn hu J K _ hJ hK
      · cases hon : s.onS (g.Z v a) with
        | false => exact calls_skip2 w nv sb s0 sc g n q s f wr h3 v a cs hC hn hvn ha (hL v hvn) _ _ _ hrow _ rfl hz hzn hu hon J K _ hJ hK
        | true =>
          by_cases hl : s.idx (g.Z v a) < s.low v
          · exact calls_low w nv sb s0 sc g n q s f wr h3 v a cs hC hn hvn ha (hL v hvn) _ _ _ hrow _ rfl hz hzn hu hon hl J K _ hJ hK
          · exact calls_skip1 w nv sb s0 sc g n q s f wr h3 v a cs hC hn hvn ha (hL v hvn) _ _ _ hrow _ rfl hz hzn hu hon (by omega) J K _ hJ hK
    · have ha' : a = g.L v := by omega
      obtain ⟨pre, rest, hS⟩ := List.append_of_mem hvS
      match hcs : cs with
      | [] =>
        exact calls_root_last w nv sb s0 sc g n q s f wr h3 v a [] hC hn hvn ha' (hL v hvn) _ _ hrow ok rfl (h3.ti.last_root hC) pre rest hS J K _ hJ hK
      | (p, b) :: cs' =>
        have hpn : p < n := hmem p b (by rw [hC]; simp)
        by_cases hl : s.low v < s.low p
        · exact calls_ret_low w nv sb s0 sc g n q s f wr h3 v a _ hC hn hvn ha' (hL v hvn) _ _ hrow p b cs' rfl hpn hl J K _ hJ hK
        · by_cases hr : s.low v = s.idx v
          · exact calls_root_more w nv sb s0 sc g n q s f wr h3 v a _ hC hn hvn ha' (hL v hvn) _ _ hrow ok p b cs' rfl hpn (by omega) hr pre rest hS J K _ hJ hK
          · exact calls_ret_keep w nv sb s0 sc g n q s f wr h3 v a _ hC hn hvn ha' (hL v hvn) _ _ hrow p b cs' rfl hpn (by omega) hr J K _ hJ hK

theorem calls_loop (w : World) (nv : Value) (sb s0 sc : Nat) (g : Gr) (n q : Nat) (ok : GOk g) (hn : n ≤ 1048576) (hL : ∀ u, u < n → g.L u ≤ 1048576) (R : Nat → Option Addr) (C rb ro : Nat → Nat) (hR : RowsA w sb s0 g n R C rb ro)
    (a : Act) (wr : World) (Q : Exit → Act → World → Prop) (k : Nat) (hsz : a.tmps.size = 257) (hdf : a.defers = []) (hI : I3 w nv (.slice (some ⟨sb, s0, none⟩) n sc) g n q k (slot a) wr)
    (hexit : ∀ a' w', X3 w nv (.slice (some ⟨sb, s0, none⟩) n sc) g n q a' w' → Q (.exit 4) a' w') :
    Code.wp Try.prog (Code.loop ((loops (Try.f28.body.getD .skip))[2]?.getD .skip)) Q a wr := by
  refine wp_mono (wp_loop_slots (Q := Q3 (X3 w nv (.slice (some ⟨sb, s0, none⟩) n sc) g n q)) 257 (I3 w nv (.slice (some ⟨sb, s0, none⟩) n sc) g n q) k hsz hdf hI (fun k f wr hI J K hJ hK => calls_round w nv sb s0 sc g n q ok hn hL R C rb ro hR k f wr hI J K hJ hK)) ?_
  intro e a' w' h
  unfold Q3 at h
  split at h
  · exact hexit _ _ h
  · exact h.elim

/-- The roots' loop: what holds at its head. -/
structure K2 (w : World) (nv sv : Value) (g : Gr) (n q : Nat) (s : TS) (f : Nat → Value) (wr : World) : Prop where
  f1 : f 1 = .pointer (some ⟨w.heap.size, 0, none⟩)
  f3 : f 3 = .slice (some ⟨w.heap.size + 1, 0, none⟩) n n
  f4 : f 4 = .slice (some ⟨w.heap.size + 1 + 1, 0, none⟩) n n
  f5 : f 5 = .slice (some ⟨w.heap.size + 1 + 1 + 1, 0, none⟩) n n
  f8 : f 8 = .int .i64 s.ctr
  f9 : f 9 = .int .i64 s.lst
  f41 : f 41 = .int .i64 n
  f42 : f 42 = .int .i64 q
  gn : g.n = n
  ti : TI g s
  ct : CtrOk g s
  c0 : s.C = []
  vi : ∀ x, x < q → s.idx x ≠ -1
  tm : TM w wr nv sv n s.idx s.low s.onS s.S (f 7)

def I2 (w : World) (nv sv : Value) (g : Gr) (n : Nat) (k : Nat) (f : Nat → Value) (wr : World) : Prop :=
  ∃ (q : Nat) (s : TS), q ≤ n ∧ k = n - q ∧ K2 w nv sv g n q s f wr

/-- What lowestOnCycle hands back. -/
def RetL (g : Gr) (e : Ending) : Prop := ∃ l, e = .returned (.int .i64 l) ∧ LowSpec g l

set_option maxRecDepth 100000 in
set_option maxHeartbeats 2000000 in
theorem lowest (nv sv : Value) (g : Gr) (X : Nat → Int) (w : World) (ok : GOk g) (hn : g.n ≤ 1048576) (hL : ∀ u, u < g.n → g.L u ≤ 1048576)
    (hN : IntsI w 0 nv g.n X) (hS : RowsI w sv g.n g.L (fun u j => (g.Z u j : Int))) :
    Calls Try.prog 28 #[.agg #[nv, sv]] w fun e w' => RetL g e ∧ w.Since w.heap.size w' := by
  obtain ⟨n, hgn⟩ : ∃ n, g.n = n := ⟨_, rfl⟩
  have HG : Hid (g.n = n) := hgn
  rw [hgn] at hn hL hN hS
  clear hgn
  obtain ⟨ao, b, o, cap, rfl, hc⟩ := hN
  obtain ⟨so, sb, s0, sc, R, C, rb, ro, rfl, hs⟩ := hS
  clear hc
  have hmk := run_make_row' (P := Try.prog) 22 3 (.int .i64 0) 8 Try.underlying22 Try.info3 rfl .i64 .i64 n (by omega) (by omega)
  have hmk4 := run_make_row' (P := Try.prog) 34 4 (.bool false) 1 Try.underlying34 Try.info4 rfl .i64 .i64 n (by omega) (by omega)
  have HS : Hid (∀ u, u < n → so = some ⟨sb, s0, none⟩) := fun u hu => (hs u hu).1
  have HR : Hid (RowsA w sb s0 g n R C rb ro) := fun u hu => (hs u hu).2
  have HL : Hid (∀ u, u < n → g.L u ≤ 1048576) := hL
  clear hs hL
  go_enter Try.func28, Try.ntmps28
  go_wp2
  clear hmk hmk4
  go_loopg [32] n (fun gk i wr => ∃ k : Nat, k ≤ n ∧ gk = n - k ∧ i = .int .i64 k ∧ TM0 w wr (.slice ao n cap) (.slice so n sc) n k)
  case atStart => exact ⟨0, Nat.zero_le _, rfl, rfl, TM0.start w _ _ n⟩
  case round =>
    obtain ⟨k, hk, rfl, rfl, hM⟩ := hrel
    by_cases hlt : k < n
    · have h2 : wr.cell? ⟨w.heap.size + 1, k, none⟩ = some (.int .i64 0) := by simpa using hM.ix.cell hlt
      have h3 : wr.frozen? ⟨w.heap.size + 1, k, none⟩ = false := hM.ix.frozen k
      go_wp2
      go_roundg (n - (k + 1))
      case measure => omega
      case rel => exact ⟨k + 1, by omega, rfl, by go_num, hM.step⟩
    · obtain rfl : k = n := by omega
      have hM := hM.done
      have hb0 : wr.cell? ⟨w.heap.size, 0, none⟩ = some (.slice ao k cap) := by simpa using hM.box.cell (i := 0) (by omega)
      go_wp2
      clear hb0
      refine wp_loop_slots 257 (I2 w (.slice ao k cap) (.slice so k sc) g k) k rfl rfl ⟨0, TS.init, Nat.zero_le _, rfl, rfl, rfl, rfl, rfl, rfl, rfl, rfl, rfl, HG.out, TI.start g, CtrOk.start g, rfl, fun x hx => by omega, hM⟩ ?_
      clear hM
      intro gk f wr hI J K hJ hK
      have HJ : Hid (∀ k' f w', I2 w (.slice ao k cap) (.slice so k sc) g k k' f w' → J k' f w') := hJ
      clear hJ
      obtain ⟨q, s, hq, rfl, hK2⟩ := hI
      rw [mkA_257, hK2.f1, hK2.f3, hK2.f4, hK2.f5, hK2.f8, hK2.f9, hK2.f41, hK2.f42]
      have HK : Hid (K2 w (.slice ao k cap) (.slice so k sc) g k q s f wr) := hK2
      by_cases hlq : q < k
      · have hi1 : wr.cell? ⟨w.heap.size + 1, q, none⟩ = some (.int .i64 (s.idx q)) := hK2.tm.ix.cell hlq
        by_cases hu : s.idx q = -1
        · have hi2 : wr.frozen? ⟨w.heap.size + 1, q, none⟩ = false := hK2.tm.ix.frozen q
          have hl1 : wr.cell? ⟨w.heap.size + 1 + 1, q, none⟩ = some (.int .i64 (s.low q)) := hK2.tm.lw.cell hlq
          have hl2 : wr.frozen? ⟨w.heap.size + 1 + 1, q, none⟩ = false := hK2.tm.lw.frozen q
          have hz : w.heap.size + 1 + 1 + 1 < wr.heap.size := hK2.tm.os.lt
          have hct := hK2.ct.lt (w := q) (by rw [hK2.gn]; exact hlq) hu
          rw [hK2.gn] at hct
          have hsl : s.S.length = 0 := by rw [hK2.ti.noS hK2.c0]; rfl
          have HSL : Hid (s.S.length = 0) := hsl
          obtain ⟨i3, hi3, hz30, hz31, hz32⟩ := info_parts Try.info3
          rw [hu] at hi1
          have HU : Hid (s.idx q = -1) := hu
          have HM1 : Hid (TM w (((wr.alloc (.cells #[.int .i64 q, .int .i64 0] 43)).setCell ⟨w.heap.size + 1, q, none⟩ (.int .i64 s.ctr)).setCell ⟨w.heap.size + 1 + 1, q, none⟩ (.int .i64 s.ctr)) (.slice ao k cap) (.slice so k sc) k (upd s.idx q s.ctr) (upd s.low q s.ctr) s.onS s.S (f 7)) :=
            ((hK2.tm.alloc _).setIx q s.ctr).setLw q s.ctr
          have HC1 : Hid (CA w (((wr.alloc (.cells #[.int .i64 q, .int .i64 0] 43)).setCell ⟨w.heap.size + 1, q, none⟩ (.int .i64 s.ctr)).setCell ⟨w.heap.size + 1 + 1, q, none⟩ (.int .i64 s.ctr)) (.slice (some ⟨wr.heap.size, 0, none⟩) 1 1) [(q, 0)]) :=
            (CA.below (w := w) (C := [(q, 0)]) (World.ownsRow_lit (e := 43) (size := 2) wr #[.int .i64 q, .int .i64 0] 1 (by omega) (by unfold maxLen; omega) rfl) (by show w.heap.size + 1 < _; omega) _).below (by show w.heap.size + 1 + 1 < _; omega) _
          have hj1 : ∀ ob, (wr.alloc ob).cell? ⟨w.heap.size + 1, q, none⟩ = some (.int .i64 (-1)) := fun ob => by have := (hK2.tm.alloc ob).ix.cell hlq; rw [hu] at this; exact this
          have hj2 : ∀ ob, (wr.alloc ob).frozen? ⟨w.heap.size + 1, q, none⟩ = false := fun ob => (hK2.tm.alloc ob).ix.frozen q
          have hk1 : ∀ ob, (wr.alloc ob).cell? ⟨w.heap.size + 1 + 1, q, none⟩ = some (.int .i64 (s.low q)) := fun ob => (hK2.tm.alloc ob).lw.cell hlq
          have hk2 : ∀ ob, (wr.alloc ob).frozen? ⟨w.heap.size + 1 + 1, q, none⟩ = false := fun ob => (hK2.tm.alloc ob).lw.frozen q
          clear hK2 hu hsl hi2 hl1 hl2
          go_wp2_with (at_builtin; refine wpList_append_own _ rfl (.tmp 63) (.tmp 65) 22 rfl (w.heap.size + 4) 3 i3 (.int .i64 0) 1 8 Try.underlying22 hi3 hz30 hz31 hz32 rfl (by decide) (f 7) s.S.length (ivals s.S) rfl ?qown ⟨wr.heap.size + 1, 0, none⟩ 1 1 [.int .i64 q] rfl rfl ?qc1 ?qc2 ?qc3 ?qc4 ?qc5 ?_)
          case qown => exact (HM1.out.alloc _).st
          case qc1 => exact cells_new _ _ (by simp) [_] _
          case qc2 => intro u hu; simp at hu; subst hu; rfl
          case qc3 => rw [HSL.out]; unfold maxLen; omega
          case qc4 => rw [HSL.out]; omega
          case qc5 => simp; omega
          intro v1 w1 hown1 hgrow1 _
          have HM2 := (HM1.out.alloc _).app hown1 hgrow1
          have HC2 := (HC1.out.alloc _).stackApp (HM1.out.alloc _) hgrow1
          clear hown1 hgrow1 HM1 HC1
          have o1 : w1.cell? ⟨w.heap.size + 1 + 1 + 1, q, none⟩ = some (.bool (s.onS q)) := HM2.os.cell hlq
          have o2 : w1.frozen? ⟨w.heap.size + 1 + 1 + 1, q, none⟩ = false := HM2.os.frozen q
          have HM3 : Hid (TM w (w1.setCell ⟨w.heap.size + 1 + 1 + 1, q, none⟩ (.bool true)) (.slice ao k cap) (.slice so k sc) k (upd s.idx q s.ctr) (upd s.low q s.ctr) (upd s.onS q true) (q :: s.S) v1) := HM2.setOs q true
          have HC3 : Hid (CA w (w1.setCell ⟨w.heap.size + 1 + 1 + 1, q, none⟩ (.bool true)) (.slice (some ⟨wr.heap.size, 0, none⟩) 1 1) [(q, 0)]) := CA.below HC2 (by show w.heap.size + 1 + 1 + 1 < _; omega) _
          clear HM2 HC2 hi1 hj1 hj2 hk1 hk2
          go_wp2
          obtain rfl := HS.out q hlq
          refine calls_loop w (.slice ao k cap) sb s0 sc g k q ok hn HL.out R C rb ro HR.out _ _ _ (tW g (upd s.idx q s.ctr) [(q, 0)]) rfl rfl ⟨{ (s.push q) with C := [(q, 0)] }, rfl, ?_⟩ ?_
          · obtain ⟨e1, e3, e4, e5, e8, e9, e41, e42, t0, t1, t2, t3, t4, t5⟩ := HK.out
            refine ⟨rfl, rfl, rfl, rfl, rfl, rfl, rfl, rfl, t0, ?_, t2.push (by rw [t0]; exact hlq) HU.out, fun x hx => ?_, HM3.out, HC3.out⟩
            · have := t1.push (w := q) (by rw [t0]; exact hlq) HU.out (fun v a hm => by rw [t3] at hm; simp at hm)
              have e : (s.push q).C = [(q, 0)] := by show (q, 0) :: s.C = _; rw [t3]
              rw [← e]
              exact this
            · show upd s.idx q s.ctr x ≠ -1
              by_cases e : x = q
              · rw [e, upd_same]; omega
              · rw [upd_ne _ _ _ e]; exact t4 x (by omega)
          · intro a' w' hX
            obtain ⟨hsz, hdf, s', hC', h3⟩ := hX
            rw [← mkA_slot hsz hdf]
            clear HM3 HC3 o1 o2 HSL HU hct
            generalize slot a' = f' at h3
            have HK3 : Hid (K3 w (.slice ao k cap) (.slice (some ⟨sb, s0, none⟩) k sc) g k q s' f' w') := h3
            have HC' : Hid (s'.C = []) := hC'
            rw [mkA_257, h3.f1, h3.f3, h3.f4, h3.f5, h3.f8, h3.f9, h3.f41, h3.f42]
            clear h3 hC' HK
            go_wp2
            refine EndI.intro (k - (q + 1)) (by omega) rfl rfl (HJ.out _ _ _ ⟨q + 1, s', by omega, rfl, ?_⟩)
            obtain ⟨e1, e3, e4, e5, e8, e9, e41, e42, t0, t1, t2, t3, t4, t5⟩ := HK3.out
            exact ⟨rfl, rfl, rfl, rfl, rfl, rfl, rfl, rfl, t0, t1, t2, HC'.out, fun x hx => t3 x (by omega), t4⟩
        · have hu' : (s.idx q != -1) = true := by simpa using hu
          clear hK2
          have HU : Hid (s.idx q ≠ -1) := hu
          clear hu
          go_wp2
          refine EndI.intro (k - (q + 1)) (by omega) rfl rfl (HJ.out _ _ _ ⟨q + 1, s, by omega, rfl, ?_⟩)
          obtain ⟨e1, e3, e4, e5, e8, e9, e41, e42, t0, t1, t2, t3, t4, t5⟩ := HK.out
          refine ⟨rfl, rfl, rfl, rfl, rfl, rfl, rfl, rfl, t0, t1, t2, t3, fun x hx => ?_, t5⟩
          by_cases e : x = q
          · rw [e]; exact HU.out
          · exact t4 x (by omega)
      · clear hK2
        go_wp2
        go_ret
        have h := HK.out
        exact ⟨⟨_, rfl, h.ti.final h.c0 (fun x hx => h.vi x (by rw [h.gn] at hx; omega))⟩, h.tm.since⟩
end Go.Proofs.Qxb6600028a
