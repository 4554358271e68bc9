import Derived.Test.Qxb6600028aBfsIn
namespace Go.Proofs.Qxb6600028a
open Go.RowKit Go.Deep

theorem wp_mk {P : Program} {Q : Exit → Act → World → Prop} {a : Act} {w : World} {c : Code} (N : Nat) (hN : a.tmps.size = N) (hd : a.defers = []) (h : c.wp P Q (mkA N (slot a)) w) : c.wp P Q a w := by
  rw [mkA_slot hN hd] at h
  exact h

/-- At the head of Cycle's search. -/
def I4 (wc : World) (n s : Nat) (W N : Nat → Nat → Prop) (f0 : Nat → Value) (k : Nat) (f : Nat → Value) (wr : World) : Prop :=
  FS f0 f ∧ ∃ (P T : List Nat) (D : Nat → Int) (g off cap : Nat), k = n - P.length ∧ f 11 = .slice (some ⟨g, off, none⟩) T.length cap ∧ BH n s W N D P T ∧ (∀ y, y < n → D y ≤ P.length) ∧ CM wc wr n D T g off cap

/-- Behind it. -/
def XB (wc : World) (n : Nat) (W : Nat → Nat → Prop) (f0 : Nat → Value) (a' : Act) (w' : World) : Prop :=
  a'.tmps.size = 184 ∧ a'.defers = [] ∧ FS f0 (slot a') ∧ ∃ D, DistOk n W D ∧ (∀ y, y < n → D y ≤ n) ∧ wc.Since wc.heap.size w' ∧ w'.rowIs wc.heap.size 3 n (fun j => .int .i64 (D j))

set_option maxRecDepth 100000 in
set_option maxHeartbeats 2000000 in
theorem bfs_loop (wc : World) (pb : Nat) (gp : Gr) (n s : Nat) (W N : Nat → Nat → Prop) (hW : WN n s W N) (hn : n ≤ 1048576) (hLb : ∀ u, u < n → gp.L u ≤ 1048576) (hN : ∀ u, u < n → ∀ y, N u y ↔ Edge gp u y)
    (R : Nat → Option Addr) (C rb ro : Nat → Nat) (hR : RowsA wc pb 0 gp n R C rb ro) (f : Nat → Value) (w0 : World)
    (h4 : f 4 = .slice (some ⟨pb, 0, none⟩) n n) (h9 : f 9 = .slice (some ⟨wc.heap.size, 0, none⟩) n n) (D0 : Nat → Int) (T0 : List Nat) (g0 off0 cap0 : Nat) (h11 : f 11 = .slice (some ⟨g0, off0, none⟩) T0.length cap0)
    (hB : BH n s W N D0 [] T0) (hDb : ∀ y, y < n → D0 y ≤ 0) (hM : CM wc w0 n D0 T0 g0 off0 cap0) :
    Code.wp Try.prog (Code.loop ((loops (Try.f22.body.getD .skip))[3]?.getD .skip)) (QX 6 (XB wc n W f)) (mkA 184 f) w0 := by
  have hslot : ∀ i, i < 184 → slot (mkA 184 f) i = f i := fun i hi => by simp [slot, mkA, hi]
  refine wp_loop_slots 184 (I4 wc n s W N f) n rfl rfl ⟨⟨hslot 1 (by omega), hslot 3 (by omega), hslot 4 (by omega), hslot 9 (by omega)⟩, [], T0, D0, g0, off0, cap0, rfl, (hslot 11 (by omega)).trans h11, hB, hDb, hM⟩ ?_
  clear hB hDb hM h11 hslot
  intro gk f1 wr hI J K hJ hK
  obtain ⟨hF, P, T, D, g, off, cap, rfl, h11, hB, hDb, hM⟩ := hI
  have HJ : Hid (∀ k f' w', I4 wc n s W N f k f' w' → J k f' w') := hJ
  clear hJ
  conv => arg 2; whnf
  have HF : Hid (FS f f1) := hF
  have e4 := hF.s4.trans h4
  have e9 := hF.s9.trans h9
  have E4 : Hid (f1 4 = .slice (some ⟨pb, 0, none⟩) n n) := e4
  have E9 : Hid (f1 9 = .slice (some ⟨wc.heap.size, 0, none⟩) n n) := e9
  rw [mkA_184, e4, e9, h11]
  clear hF e4 e9 h4 h9
  have HW : Hid (WN n s W N) := hW
  have HDb : Hid (∀ y, y < n → D y ≤ P.length) := hDb
  have HN : Hid (∀ u, u < n → ∀ y, N u y ↔ Edge gp u y) := hN
  have HLb : Hid (∀ u, u < n → gp.L u ≤ 1048576) := hLb
  clear hW hDb hN hLb
  match T with
  | [] =>
    have HB : Hid (BH n s W N D P []) := hB
    clear hB h11
    rw [List.length_nil]
    go_wp2
    have hl := HB.out.len
    exact ⟨rfl, rfl, rfl, ⟨HF.out.s1, HF.out.s3, E4.out.symm.trans HF.out.s4, E9.out.symm.trans HF.out.s9⟩, D, HB.out.final HW.out, fun y hy => by have := HDb.out y hy; simp at hl; omega, hM.since, hM.ds⟩
  | u :: T =>
    have hun : u < n := hB.mem u (by simp)
    have hlen := hB.len
    rw [List.length_cons] at hlen
    obtain ⟨hrow, hents⟩ := hR u hun
    have hrow' : wr.cell? ⟨pb, 0 + u, none⟩ = some (.slice (R u) (gp.L u) (C u)) := by rw [hM.since.cell (a := ⟨pb, 0 + u, none⟩) (World.block_lt_of_cell? _ _ hrow)]; exact hrow
    rw [Nat.zero_add] at hrow'
    have c0 : wr.cell? ⟨g, off, none⟩ = some (.int .i64 u) := hM.qu.cell (j := 0) rfl
    have hcaps := hM.qu.caps
    rw [List.length_cons] at hcaps
    obtain ⟨hc1, hc2⟩ := hcaps
    unfold maxLen at hc2
    have hpop := hM.qu.pop
    have hLu := HLb.out u hun
    -- behind the inner loop
    have HEND : Hid (∀ f2 a' w', FS f1 f2 → XI wc n s W N P u gp f2 a' w' → EndI 184 J (n - P.length) a' w') := by
      rintro f2 a' w' hF2 ⟨hsz, hdf, hF1, D', T', g', off', cap', h11', hB', hDb', hM'⟩
      have hF' : FS f1 (slot a') := ⟨hF1.s1.trans hF2.s1, hF1.s3.trans hF2.s3, hF1.s4.trans hF2.s4, hF1.s9.trans hF2.s9⟩
      have hB2 := hB'.done (fun y hy => (HN.out u hun y).1 hy)
      refine EndI.intro (n - (P ++ [u]).length) ?_ hsz hdf (HJ.out _ _ _ ⟨⟨hF'.s1.trans HF.out.s1, hF'.s3.trans HF.out.s3, hF'.s4.trans HF.out.s4, hF'.s9.trans HF.out.s9⟩, P ++ [u], T', D', g', off', cap', rfl, h11', hB2, fun y hy => ?_, hM'⟩)
      · rw [List.length_append]; simp only [List.length_cons, List.length_nil]; omega
      · have := hDb' y hy; rw [List.length_append]; simp only [List.length_cons, List.length_nil]; omega
    have HB : Hid (BC n s W N D P u T (fun _ => False)) := hB.pop
    have HR : Hid (∀ j, j < gp.L u → R u = some ⟨rb u, ro u, none⟩ ∧ wc.cell? ⟨rb u, ro u + j, none⟩ = some (.int .i64 (gp.Z u j))) := hents
    have HM : Hid (CM wc wr n D (u :: T) g off cap) := hM
    clear hB hrow hents hR hM h11
    rw [List.length_cons]
    by_cases hcap : cap = 1
    · have HQ : Hid (QAt wr (wc.heap.size + 1) g off 0 T) := hpop.1 hcap
      have hT0 : T.length = 0 := by omega
      have HT : Hid (T.length = 0) := hT0
      subst hcap
      clear hpop
      rw [hT0]
      clear hT0
      go_wp2
      refine wp_mk 184 rfl rfl ?_
      refine wp_cut 8 _ (bfs_inner wc gp n s W N HW.out P u hn hLu (fun i hi => (HN.out u hun _).2 ⟨i, hi, rfl⟩) (R u) (C u) (rb u) (ro u) HR.out _ wr rfl D T g off 0 (by rw [HT.out]; rfl) rfl rfl rfl rfl HB.out HDb.out ⟨HM.out.since, HM.out.ds, HQ.out⟩) ?_
      intro a' w' hX
      have HE := HEND.out _ a' w' (by exact ⟨rfl, rfl, E4.out.symm, E9.out.symm⟩) hX
      clear hX
      go_wp2
      exact HE
    · have HQ : Hid (QAt wr (wc.heap.size + 1) g (off + 1) (cap - 1) T) := hpop.2 hcap
      have hcap2 : 2 ≤ cap := by omega
      clear hpop hcap
      go_wp2
      refine wp_mk 184 rfl rfl ?_
      refine wp_cut 8 _ (bfs_inner wc gp n s W N HW.out P u hn hLu (fun i hi => (HN.out u hun _).2 ⟨i, hi, rfl⟩) (R u) (C u) (rb u) (ro u) HR.out _ wr rfl D T g (off + 1) (cap - 1) rfl rfl rfl rfl rfl HB.out HDb.out ⟨HM.out.since, HM.out.ds, HQ.out⟩) ?_
      intro a' w' hX
      have HE := HEND.out _ a' w' (by exact ⟨rfl, rfl, E4.out.symm, E9.out.symm⟩) hX
      clear hX
      go_wp2
      exact HE
end Go.Proofs.Qxb6600028a
