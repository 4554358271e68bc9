import Derived.Test.Qxb6600028aCycIn
namespace Go.Proofs.Qxb6600028a
open Go.RowKit Go.Deep

/-- The rows of predecessors as a graph. -/
def predG (n : Nat) (pl : Nat → List Nat) : Gr := ⟨n, fun v => (pl v).length, fun v j => (pl v).getD j 0⟩
theorem predG_edge {n : Nat} {pl : Nat → List Nat} {x y : Nat} : Edge (predG n pl) x y ↔ y ∈ pl x := by
  constructor
  · rintro ⟨j, hj, rfl⟩
    show (pl x).getD j 0 ∈ pl x
    rw [List.getD_eq_getElem?_getD, List.getElem?_eq_getElem hj]
    exact List.getElem_mem hj
  · intro h
    obtain ⟨j, hj, e⟩ := List.getElem_of_mem h
    refine ⟨j, hj, ?_⟩
    show (pl x).getD j 0 = y
    rw [List.getD_eq_getElem?_getD, List.getElem?_eq_getElem hj]
    exact e

theorem PM.rows {wb wr : World} {n : Nat} {PV : Nat → Value} {pl : Nat → List Nat} (h : PM wb wr n PV pl) : ∃ R C rb, RowsA wr wb.heap.size 0 (predG n pl) n R C rb (fun _ => 0) := by
  have h' : ∀ v, v < n → ∃ x : Option Addr × Nat × Nat, PV v = .slice x.1 (pl v).length x.2.1 ∧ ∀ j, j < (pl v).length → x.1 = some ⟨x.2.2, 0, none⟩ ∧ wr.cell? ⟨x.2.2, 0 + j, none⟩ = some (.int .i64 ((predG n pl).Z v j)) := by
    intro v hv
    have ho := h.own v hv
    rcases ho.2 with ⟨hv0, hl⟩ | ⟨g, cap, cur, hvv, _⟩
    · exact ⟨(none, 0, 0), by rw [hv0, hl], fun j hj => by omega⟩
    · refine ⟨(some ⟨g, 0, none⟩, cap, g), hvv, fun j hj => ⟨rfl, ?_⟩⟩
      obtain ⟨gq, cq, hvq, hc⟩ := own_at ho hj
      rw [hvv] at hvq
      simp only [Value.slice.injEq, Option.some.injEq, Addr.mk.injEq, and_true, true_and] at hvq
      rw [Nat.zero_add, hvq.1, hc]
      show some (Value.int .i64 ((pl v)[j] : Int)) = some (.int .i64 (((pl v).getD j 0 : Nat) : Int))
      rw [List.getD_eq_getElem?_getD, List.getElem?_eq_getElem hj]
      rfl
  obtain ⟨F, hF⟩ := choose_lt h'
  refine ⟨fun v => (F v).1, fun v => (F v).2.1, fun v => (F v).2.2, fun v hv => ⟨?_, (hF v hv).2⟩⟩
  rw [Nat.zero_add, h.top.cell hv, (hF v hv).1]
  rfl

set_option maxRecDepth 100000 in
set_option maxHeartbeats 2000000 in
theorem cycle (nv sv : Value) (g : Gr) (X : Nat → Int) (w : World) (ok : GOk g) (hn : g.n ≤ 1048576) (hsum : sumTo g.L g.n ≤ 1048576)
    (hN : IntsI w 0 nv g.n X) (hS : RowsI w sv g.n g.L (fun u j => (g.Z u j : Int))) :
    Calls Try.prog 22 #[.agg #[nv, sv]] w fun e w' => (∃ l, LowSpec g l ∧ RetC g X l w' e) ∧ w.Since w.heap.size w' := by
  have hLb : ∀ u, u < g.n → g.L u ≤ 1048576 := fun u hu => Nat.le_trans (sumTo_term (f := g.L) hu) hsum
  have hb : ∀ o, w.Since w.heap.size (w.alloc o) := fun o => (World.Since.refl _ _).alloc (Nat.le_refl _) _
  have HC : Hid (∀ o, Calls Try.prog 28 #[.agg #[nv, sv]] (w.alloc o) fun e w' => RetL g e ∧ (w.alloc o).Since (w.alloc o).heap.size w') := fun o => lowest nv sv g X (w.alloc o) ok hn hLb (hN.since (hb o)) (hS.since (hb o))
  obtain ⟨n, hgn⟩ : ∃ n, g.n = n := ⟨_, rfl⟩
  have HG : Hid (g.n = n) := hgn
  have HOK : Hid (GOk g) := ok
  have HSum : Hid (sumTo g.L g.n ≤ 1048576) := hsum
  have HLb : Hid (∀ u, u < n → g.L u ≤ 1048576) := fun u hu => hLb u (by omega)
  rw [hgn] at hn hN hS
  obtain ⟨na, nb, no, nc, rfl, hN'⟩ := hN
  obtain ⟨so, sb, s0, sc, R, C, rb, ro, rfl, hS'⟩ := hS
  have HN : Hid (∀ j, j < n → na = some ⟨nb, no, none⟩ ∧ w.cell? ⟨nb, no + j, none⟩ = some (.int .i64 (X j))) := fun j hj => ⟨(hN' j hj).1, (hN' j hj).2.2⟩
  have HS : Hid (∀ u, u < n → so = some ⟨sb, s0, none⟩) := fun u hu => (hS' u hu).1
  have HR : Hid (RowsA w sb s0 g n R C rb ro) := fun u hu => (hS' u hu).2
  clear hN' hS' hLb hgn ok hsum
  go_enter Try.func22, Try.ntmps22
  go_wp2_with fail
  refine (HC.out _).mono ?_
  rintro e w1 ⟨⟨l, rfl, hl⟩, hs1⟩
  have HL : Hid (LowSpec g l) := hl
  have HS1 : Hid (w.Since w.heap.size w1) := (hb _).trans (since_le hs1 (by simp))
  have hbox := World.rowIs_alloc w #[.slice na n nc, .slice so n sc] 31 (fun i => if i = 0 then .slice na n nc else .slice so n sc) (fun i hi => by
    match i, hi with
    | 0, _ => rfl
    | 1, _ => rfl
    | i + 2, hi => exact absurd hi (by simp))
  have hbox1 := hbox.of_block (hs1.block _ hbox.lt)
  clear hbox hs1 hl HC
  rcases HL.out with ⟨rfl, hno⟩ | ⟨s, rfl, hs, hc, hmin⟩
  · go_wp2
    go_ret
    exact ⟨⟨-1, HL.out, Or.inl ⟨rfl, rfl⟩⟩, HS1.out⟩
  have hsn : s < n := by rw [← HG.out]; exact hs
  have HCY : Hid (OnC g s) := hc
  obtain rfl := (HN.out s hsn).1
  obtain rfl := HS.out s hsn
  have b0 : w1.cell? ⟨w.heap.size, 0, none⟩ = some (.slice (some ⟨nb, no, none⟩) n nc) := by simpa using hbox1.cell (i := 0) (by simp)
  have b1 : w1.cell? ⟨w.heap.size, 1, none⟩ = some (.slice (some ⟨sb, s0, none⟩) n sc) := by simpa using hbox1.cell (i := 1) (by simp)
  have HB0 : Hid (w1.cell? ⟨w.heap.size, 0, none⟩ = some (.slice (some ⟨nb, no, none⟩) n nc)) := b0
  have HB1 : Hid (w1.cell? ⟨w.heap.size, 1, none⟩ = some (.slice (some ⟨sb, s0, none⟩) n sc)) := b1
  have HR1 : Hid (RowsA w1 sb s0 g n R C rb ro) := HR.out.since HS1.out
  have HN1 : Hid (∀ j, j < n → w1.cell? ⟨nb, no + j, none⟩ = some (.int .i64 (X j))) := fun j hj => by
    have h := (HN.out j hj).2
    rw [HS1.out.cell (a := ⟨nb, no + j, none⟩) (World.block_lt_of_cell? _ _ h)]; exact h
  have hbl : w.heap.size < w1.heap.size := hbox1.lt
  have hmk := run_make_row' (P := Try.prog) 23 22 (.slice none 0 0) 24 Try.underlying23 Try.info22 rfl .i64 .i64 n (by omega) (by omega)
  have hmk3 := run_make_row' (P := Try.prog) 22 3 (.int .i64 0) 8 Try.underlying22 Try.info3 rfl .i64 .i64 n (by omega) (by omega)
  clear hbox1 hc hmin HN HR HS hb
  go_wp2
  clear b0 b1 hmk
  -- the predecessors
  refine wp_mk 184 rfl rfl ?_
  refine wp_cut 0 _ (pred_loop w1 sb s0 sc g n _ _ HG.out HOK.out hn HSum.out R C rb ro HR1.out rfl rfl rfl rfl (PM.start w1 n)) ?_
  rintro a2 w2 ⟨hsz, hdf, e1, e3, e4, PV, pl, hPM, hPI⟩
  rw [← mkA_slot hsz hdf]
  have e1' : slot a2 1 = .pointer (some ⟨w.heap.size, 0, none⟩) := e1
  have e3' : slot a2 3 = .int .i64 s := e3
  have e4' : slot a2 4 = .slice (some ⟨w1.heap.size, 0, none⟩) n n := e4
  clear e1 e3 e4 hsz hdf
  generalize slot a2 = f2 at *
  rw [mkA_184, e1', e3', e4']
  have c0 : w2.cell? ⟨w.heap.size, 0, none⟩ = some (.slice (some ⟨nb, no, none⟩) n nc) := by rw [hPM.since.cell (a := ⟨w.heap.size, 0, none⟩) hbl]; exact HB0.out
  have HPM : Hid (PM w1 w2 n PV pl ∧ PredI g n 0 pl) := ⟨hPM, hPI⟩
  have HS2 : Hid (w1.Since w1.heap.size w2) := hPM.since
  clear e1' e3' e4' hPM hPI
  go_wp2
  clear hmk3 c0
  -- the distances
  go_loopg [63] n (fun gk i wr => ∃ k : Nat, k ≤ n ∧ gk = n - k ∧ i = .int .i64 k ∧ wr.heap.size = w2.heap.size + 1 ∧ w2.Since w2.heap.size wr ∧ wr.rowIs w2.heap.size 3 n (fun j => .int .i64 (if j < k then -1 else 0)))
  case atStart => exact ⟨0, Nat.zero_le _, rfl, rfl, by simp, (World.Since.refl _ _).alloc (Nat.le_refl _) _, (World.rowIs_made w2 _ n 3).congr (fun j _ => by simp)⟩
  case round =>
    obtain ⟨k, hk, rfl, rfl, hz, hsi, hrw⟩ := hrel
    by_cases hlt : k < n
    · have d1 : wr.cell? ⟨w2.heap.size, k, none⟩ = some (.int .i64 0) := by simpa using hrw.cell hlt
      have d2 : wr.frozen? ⟨w2.heap.size, k, none⟩ = false := hrw.frozen k
      go_wp2
      go_roundg (n - (k + 1))
      case measure => omega
      case rel =>
        refine ⟨k + 1, by omega, rfl, by go_num, by simpa using hz, hsi.setCell (Nat.le_refl _) _, (hrw.set k _).congr (fun j _ => ?_)⟩
        by_cases e : j = k
        · subst e; simp
        · rw [if_neg e]
          by_cases h : j < k
          · rw [if_pos h, if_pos (by omega)]
          · rw [if_neg h, if_neg (by omega)]
    · obtain rfl : k = n := by omega
      have hrw1 := hrw.congr (g := fun _ => .int .i64 (-1)) (fun j hj => by rw [if_pos hj])
      have d1 : wr.cell? ⟨w2.heap.size, s, none⟩ = some (.int .i64 (-1)) := hrw1.cell hsn
      have d2 : wr.frozen? ⟨w2.heap.size, s, none⟩ = false := hrw1.frozen s
      have HM : Hid (CM w2 ((wr.setCell ⟨w2.heap.size, s, none⟩ (.int .i64 0)).alloc (.cells #[.int .i64 s] 3)) k (upd (fun _ => -1) s 0) [s] wr.heap.size 0 1) := by
        refine ⟨(hsi.setCell (Nat.le_refl _) _).alloc (by rw [nblk_setCell, hz]; omega) _, (((hrw1.set s _).congr (fun j _ => upd_congr (Value.int .i64) (fun _ => -1) s 0 j)).alloc _), ?_⟩
        refine ⟨#[.int .i64 s], by omega, ?_, Nat.le_refl _, by unfold maxLen; omega, Nat.le_refl _, fun j x hx => ?_⟩
        · have := blk_alloc_new (wr.setCell ⟨w2.heap.size, s, none⟩ (.int .i64 0)) (.cells #[.int .i64 s] 3)
          rw [nblk_setCell] at this
          exact this
        · match j, hx with
          | 0, hx => simp at hx; subst hx; rfl
      have HHZ : Hid (wr.heap.size = w2.heap.size + 1) := hz
      clear hrw hrw1 hsi hz
      go_wp2
      clear d1 d2
      obtain ⟨RP, CP, rbP, hRP⟩ := HPM.out.1.rows
      have hW : WN k s (fun kk v => v < k ∧ Wk g kk v s) (fun x y => y < k ∧ Edge g y x) := by
        have h := WN.back HOK.out hs
        rw [HG.out] at h
        exact h
      have hLP : ∀ u, u < k → (predG k pl).L u ≤ 1048576 := fun u hu => by
        have h1 := (HPM.out.2 u (by rw [HG.out]; exact hu)).2
        have h2 := rem_le g [] u k
        have h3 := HSum.out
        rw [HG.out] at h3
        show (pl u).length ≤ _
        rw [h1]
        show rem g [] u k + 0 ≤ _
        omega
      have hNP : ∀ u, u < k → ∀ y, (y < k ∧ Edge g y u) ↔ Edge (predG k pl) u y := fun u hu y => by
        rw [predG_edge, (HPM.out.2 u (by rw [HG.out]; exact hu)).1 y]
        constructor
        · intro h; exact Or.inl h
        · rintro (h | ⟨_, i, hi, _⟩)
          · exact h
          · omega
      have hB0 : BH k s (fun kk v => v < k ∧ Wk g kk v s) (fun x y => y < k ∧ Edge g y x) (upd (fun _ => -1) s 0) [] [s] := BH.start hW (upd_same _ _ _) (fun v _ hv => upd_ne _ _ _ hv)
      have hDb0 : ∀ y, y < k → upd (fun _ => (-1 : Int)) s 0 y ≤ 0 := fun y _ => by unfold upd; split <;> simp
      refine wp_mk 184 rfl rfl ?_
      refine wp_cut 6 _ (bfs_loop w2 w1.heap.size (predG k pl) k s _ _ hW hn hLP hNP RP CP rbP (fun _ => 0) hRP _ _ rfl rfl (upd (fun _ => -1) s 0) [s] wr.heap.size 0 1 (by rw [HHZ.out]; rfl) hB0 hDb0 HM.out) ?_
      clear hW hLP hNP hB0 hDb0 hRP HM HHZ HPM
      rintro a3 w3 ⟨hsz, hdf, hF, D, hDist, hDbd, hs3, hDr⟩
      rw [← mkA_slot hsz hdf]
      have e1 : slot a3 1 = .pointer (some ⟨w.heap.size, 0, none⟩) := hF.s1
      have e3 : slot a3 3 = .int .i64 s := hF.s3
      have e9 : slot a3 9 = .slice (some ⟨w2.heap.size, 0, none⟩) k k := hF.s9
      have hD : ToS g s D := ToS.of (by rw [HG.out]; exact hDist)
      clear hF hsz hdf hDist
      generalize slot a3 = f3 at *
      rw [mkA_184, e1, e3, e9]
      have HS3 : Hid (w1.Since w1.heap.size w3) := HS2.out.trans (since_le hs3 HS2.out.size)
      have c0 : w3.cell? ⟨w.heap.size, 0, none⟩ = some (.slice (some ⟨nb, no, none⟩) k nc) := by rw [HS3.out.cell (a := ⟨w.heap.size, 0, none⟩) hbl]; exact HB0.out
      have c1 : w3.cell? ⟨w.heap.size, 1, none⟩ = some (.slice (some ⟨sb, s0, none⟩) k sc) := by rw [HS3.out.cell (a := ⟨w.heap.size, 1, none⟩) hbl]; exact HB1.out
      obtain ⟨len, hlen, hgir, hfirst⟩ := girth_of HOK.out hs HCY.out hD
      have HR3 : Hid (RowsA w3 sb s0 g k R C rb ro) := HR1.out.since HS3.out
      have HN3 : Hid (∀ j, j < k → w3.cell? ⟨nb, no + j, none⟩ = some (.int .i64 (X j))) := fun j hj => by
        have h := HN1.out j hj
        rw [HS3.out.cell (a := ⟨nb, no + j, none⟩) (World.block_lt_of_cell? _ _ h)]; exact h
      obtain ⟨hrow, hents⟩ := HR3.out s hsn
      have hLs := HLb.out s hsn
      have hLpos : 0 < g.L s := by obtain ⟨i, hi, _⟩ := hfirst; omega
      rw [(hents 0 hLpos).1] at hrow
      have HE : Hid (∀ j, j < g.L s → w3.cell? ⟨rb s, ro s + j, none⟩ = some (.int .i64 (g.Z s j))) := fun j hj => (hents j hj).2
      have HLEN : Hid (lenTo g D s (g.L s) = len ∧ Girth g s len ∧ ∃ i, i < g.L s ∧ D (g.Z s i) = (len : Int) - 1) := ⟨hlen, hgir, hfirst⟩
      have HD : Hid (ToS g s D) := hD
      have HDB : Hid (∀ y, y < k → D y ≤ k) := hDbd
      have HDR : Hid (w3.rowIs w2.heap.size 3 k (fun j => .int .i64 (D j))) := hDr
      clear hents hlen hgir hfirst hD hDbd hDr hs3 e1 e3 e9
      go_wp2
      clear c1 hrow
      go_loopg [15, 116] (g.L s) (fun gk il ij wx => w3 = wx ∧ ∃ j : Nat, j ≤ g.L s ∧ gk = g.L s - j ∧ il = .int .i64 (lenTo g D s j) ∧ ij = .int .i64 j)
      case atStart => exact ⟨rfl, 0, Nat.zero_le _, rfl, rfl, rfl⟩
      case round =>
        obtain ⟨rfl, j, hj, rfl, rfl, rfl⟩ := hrel
        have hlb : -1 ≤ lenTo g D s j ∧ lenTo g D s j ≤ 1048577 := by
          rcases lenTo_spec g D s j with ⟨h1, _⟩ | ⟨i, hi, h0, h1, _⟩
          · omega
          · have h2 := HDB.out (g.Z s i) (by have := (HOK.out.rng s hs i (by omega)).1; rw [HG.out] at this; exact this)
            omega
        by_cases hlj : j < g.L s
        · obtain ⟨x, hzx⟩ : ∃ x, g.Z s j = x := ⟨_, rfl⟩
          have hxn : x < k := by have := (HOK.out.rng s hs j hlj).1; rw [HG.out, hzx] at this; exact this
          have h0 := HE.out j hlj
          rw [hzx] at h0
          have d1 : w3.cell? ⟨w2.heap.size, x, none⟩ = some (.int .i64 (D x)) := HDR.out.cell hxn
          have hdb := HDB.out x hxn
          have hdb' : D x ≤ 1048576 := by omega
          have HLN : Hid (lenTo g D s (j + 1) = if 0 ≤ D x ∧ (lenTo g D s j < 0 ∨ D x + 1 < lenTo g D s j) then D x + 1 else lenTo g D s j) := by unfold Hid; rw [← hzx]; rfl
          generalize hdx : D x = dx at *
          generalize hll : lenTo g D s j = ll at *
          clear hdx hll hzx hdb
          by_cases k0 : 0 ≤ dx
          · by_cases k1 : ll < 0
            · go_wp2
              go_roundg (g.L s - (j + 1))
              case measure => omega
              case rel => exact ⟨rfl, j + 1, by omega, rfl, by rw [HLN.out, if_pos ⟨k0, Or.inl k1⟩], by go_num⟩
            · by_cases k2 : dx + 1 < ll
              · go_wp2
                go_roundg (g.L s - (j + 1))
                case measure => omega
                case rel => exact ⟨rfl, j + 1, by omega, rfl, by rw [HLN.out, if_pos ⟨k0, Or.inr k2⟩], by go_num⟩
              · go_wp2
                go_roundg (g.L s - (j + 1))
                case measure => omega
                case rel => exact ⟨rfl, j + 1, by omega, rfl, by rw [HLN.out, if_neg (by rintro ⟨_, h | h⟩ <;> omega)], by go_num⟩
          · go_wp2
            go_roundg (g.L s - (j + 1))
            case measure => omega
            case rel => exact ⟨rfl, j + 1, by omega, rfl, by rw [HLN.out, if_neg (by rintro ⟨h, _⟩; omega)], by go_num⟩
        · have hje : j = g.L s := by omega
          rw [hje, HLEN.out.1] at hlb ⊢
          clear hje
          have hlen : len ≤ 1048577 := by omega
          have d1 : w3.cell? ⟨nb, no + s, none⟩ = some (.int .i64 (X s)) := HN3.out s hsn
          go_wp2
          clear d1 c0
          refine wp_mk 184 rfl rfl ?_
          refine wp_cut 12 _ (cyc_loop w3 w.heap.size nb no nc sb s0 sc w2.heap.size g X k s D len HG.out HOK.out hn HLb.out hsn HD.out HLEN.out.2.1 HLEN.out.2.2 R C rb ro HR3.out HN3.out ?_ ?_ HDR.out _ _ rfl rfl rfl rfl hlen ((World.Since.refl _ _).alloc (Nat.le_refl _) _) (World.ownsRow_lit (e := 3) (size := 1) w3 #[.int .i64 (X s)] 1 (Nat.le_refl _) (by unfold maxLen; omega) rfl)) ?_
          · rw [HS3.out.cell (a := ⟨w.heap.size, 0, none⟩) hbl]; exact HB0.out
          · rw [HS3.out.cell (a := ⟨w.heap.size, 1, none⟩) hbl]; exact HB1.out
          rintro a4 w4 ⟨hsz, hdf, hs4, pc, hPc, hPl, hO⟩
          rw [← mkA_slot hsz hdf]
          clear hsz hdf
          generalize slot a4 = f4 at *
          have HS4 : Hid (w.Since w.heap.size w4) := HS1.out.trans (since_le (HS3.out.trans (since_le hs4 HS3.out.size)) HS1.out.size)
          have hl2 := HLEN.out.2.1.two HOK.out hs
          rcases hO.2 with ⟨_, h0⟩ | ⟨gc, cc, cur, hv, hgb, hh, hlc, hcm, hsz, htk⟩
          · omega
          have hO' := hO
          rw [hv] at hO'
          rw [mkA_184, hv]
          have HF : Hid (CycOk g X w4 s D len pc gc) := by
            refine ⟨HD.out, HLEN.out.2.1, hPc, hPl, fun i y hy => ?_⟩
            have hi := (hPc.at_lt hy).1
            rw [hO'.cellAt i (by omega)]
            unfold xvals
            rw [List.getElem?_map, hy]
            rfl
          clear hO hO' hPc hPl hs4 hv hgb hh hlc hcm hsz htk
          go_wp2
          go_ret
          exact ⟨⟨(s : Int), HL.out, Or.inr ⟨s, D, len, pc, gc, cc, rfl, rfl, HF.out⟩⟩, HS4.out⟩
end Go.Proofs.Qxb6600028a
