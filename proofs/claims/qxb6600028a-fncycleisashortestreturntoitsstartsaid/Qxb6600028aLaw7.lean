import Derived.Test.Qxb6600028aCycA
import Derived.Test.Qxb6600028aFwd
namespace Go.Proofs.Qxb6600028a
open Go.RowKit Go.Deep
/-- The best return over the first u places. -/
def BestOk (g : Gr) (s : Nat) (D : Nat → Int) (u : Nat) (b : Int) : Prop :=
  (b = -1 ∧ ∀ x, x < u → 0 ≤ D x → ¬ Edge g x s) ∨ (∃ x, x < u ∧ 0 ≤ D x ∧ Edge g x s ∧ b = D x + 1) ∧ ∀ x, x < u → 0 ≤ D x → Edge g x s → b ≤ D x + 1
theorem BestOk.skip {g : Gr} {s : Nat} {D : Nat → Int} {u : Nat} {b : Int} (h : BestOk g s D u b) (hd : D u < 0 ∨ ¬ Edge g u s) : BestOk g s D (u + 1) b := by
  rcases h with ⟨h1, h2⟩ | ⟨⟨x, h1, h2, h3, h4⟩, h5⟩
  · refine Or.inl ⟨h1, fun x hx h0 => ?_⟩
    by_cases e : x = u
    · subst e
      rcases hd with hd | hd
      · omega
      · exact hd
    · exact h2 x (by omega) h0
  · refine Or.inr ⟨⟨x, by omega, h2, h3, h4⟩, fun y hy h0 he => ?_⟩
    by_cases e : y = u
    · subst e
      rcases hd with hd | hd
      · omega
      · exact absurd he hd
    · exact h5 y (by omega) h0 he
theorem BestOk.step {g : Gr} {s : Nat} {D : Nat → Int} {u : Nat} {b : Int} (h : BestOk g s D u b) (hd : 0 ≤ D u) (t : Bool) (ht : t = true ↔ Edge g u s) :
    BestOk g s D (u + 1) (if t then (if b < 0 ∨ D u + 1 < b then D u + 1 else b) else b) := by
  cases t with
  | false => exact h.skip (Or.inr (fun e => by have := ht.2 e; simp at this))
  | true =>
    have he := ht.1 rfl
    rw [if_pos rfl]
    by_cases hc : b < 0 ∨ D u + 1 < b
    · rw [if_pos hc]
      refine Or.inr ⟨⟨u, by omega, hd, he, rfl⟩, fun y hy h0 hye => ?_⟩
      by_cases e : y = u
      · subst e; exact Int.le_refl _
      · rcases h with ⟨h1, h2⟩ | ⟨⟨x, h1, h2, h3, h4⟩, h5⟩
        · exact absurd hye (h2 y (by omega) h0)
        · have := h5 y (by omega) h0 hye
          omega
    · rw [if_neg hc]
      rcases h with ⟨h1, h2⟩ | ⟨⟨x, h1, h2, h3, h4⟩, h5⟩
      · omega
      · refine Or.inr ⟨⟨x, by omega, h2, h3, h4⟩, fun y hy h0 hye => ?_⟩
        by_cases e : y = u
        · subst e; omega
        · exact h5 y (by omega) h0 hye
theorem BestOk.girth {g : Gr} {s : Nat} {D : Nat → Int} {b : Int} (h : BestOk g s D g.n b) (hF : FromS g s D) {len : Nat} (hg : Girth g s len) (ok : GOk g) (hs : s < g.n) : b = len := by
  obtain ⟨k, rfl⟩ : ∃ k, len = k + 1 := ⟨len - 1, by have := hg.pos; omega⟩
  obtain ⟨x, hx, ⟨y, hy, hys⟩⟩ := Wk.split (a := k) (b := 1) hg.walk
  have hys' : y = s := hys
  subst hys'
  have hxn : x < g.n := hx.lt ok hs
  rcases hF x hxn with ⟨_, hno⟩ | ⟨j, hj, hjw, hjm⟩
  · exact absurd hx (hno k)
  · have hjk := hjm k hx
    rcases h with ⟨_, h2⟩ | ⟨⟨z, h1, h2, h3, h4⟩, h5⟩
    · exact absurd hy (h2 x hxn (by omega))
    · have h6 := h5 x hxn (by omega) hy
      rcases hF z h1 with ⟨hz, _⟩ | ⟨i, hi, hiw, _⟩
      · omega
      · have h7 : k + 1 ≤ i + 1 := hg.least (i + 1) (by omega) ((show Wk g i y z from hiw).snoc h3)
        omega

set_option maxRecDepth 100000 in
set_option maxHeartbeats 2000000 in
theorem law7 (n m : Nat) (X : Nat → Int) (L : Nat → Nat) (Z : Nat → Nat → Int) (nv sv : Value) (w : World) (hn : n ≤ 9223372036854775807) (hm : m ≤ 9223372036854775807) (hL : ∀ u, u < m → L u ≤ 9223372036854775807)
    (hN : IntsI w 0 nv n X) (hS : RowsI w sv m L Z) :
    Calls Try.prog 7 #[nv, sv] w fun e w' => e = .returned (.bool true) ∧ w.Since w.heap.size w' := by
  have c18 := zzB25 n m X L Z nv sv w hn hm hL hN hS
  have c10 := bytesWithin n m X L Z nv sv w hn hm hL hN hS
  have H18 : Hid (Calls Try.prog 25 #[nv, sv] w fun e w' => RetB True e ∧ w' = w) := c18
  have H10 : Hid (Calls Try.prog 10 #[nv, sv, .int .i64 1048576] w fun e w' => RetB (8 * n + 24 * m + 8 * sumTo L m ≤ 1048576) e ∧ w' = w) := c10
  have HN : Hid (IntsI w 0 nv n X) := hN
  have HS : Hid (RowsI w sv m L Z) := hS
  have HNV : Hid (∃ ao c, nv = .slice ao n c) := by obtain ⟨ao, _, _, c, h, _⟩ := hN; exact ⟨ao, c, h⟩
  clear c18 c10 hN hS hL hm
  go_enter Try.func7, Try.ntmps7
  go_wp2_with fail
  refine H18.out.mono ?_
  rintro e w1 ⟨⟨b, rfl, -⟩, rfl⟩
  cases b with
  | false =>
    go_wp2
    go_ret
    exact ⟨rfl, World.Since.refl _ _⟩
  | true =>
  go_wp2_with fail
  refine H10.out.mono ?_
  rintro e w1 ⟨⟨b, rfl, hb⟩, rfl⟩
  cases b with
  | false =>
    go_wp2
    go_ret
    exact ⟨rfl, World.Since.refl _ _⟩
  | true =>
  have hb' := hb rfl
  clear hb
  have HB : Hid (8 * n + 24 * m + 8 * sumTo L m ≤ 1048576) := hb'
  have hLb : ∀ u, u < m → L u ≤ 1048576 := fun u hu => by have := sumTo_term (f := L) hu; omega
  have H11 : Hid (Calls Try.prog 11 #[nv, sv] w1 fun e w' => RetB (VG n m X L Z) e ∧ w1.Since w1.heap.size w') := validGraph n m X L Z nv sv w1 (by omega) (by omega) hLb HN.out HS.out
  have HLB : Hid (∀ u, u < m → L u ≤ 1048576) := hLb
  clear hb' hLb H18 H10
  obtain ⟨nao, ncp, rfl⟩ := HNV.out
  clear HNV
  go_wp2_with fail
  refine H11.out.mono ?_
  rintro e w2 ⟨⟨b, rfl, hb⟩, hs2⟩
  cases b with
  | false =>
    go_wp2
    go_ret
    exact ⟨rfl, hs2⟩
  | true =>
  have HV : Hid (VG n m X L Z) := hb rfl
  have HS2 : Hid (w1.Since w1.heap.size w2) := hs2
  have hmn := (hb rfl).len
  clear hb hs2 H11
  subst hmn
  have HN2 : Hid (IntsI w2 0 (.slice nao m ncp) m X) := HN.out.since HS2.out
  have HR2 : Hid (RowsI w2 sv m L Z) := HS.out.since HS2.out
  clear HN HS
  have hm' : m ≤ 32768 := by have := HB.out; omega
  have H13 : Hid (Calls Try.prog 13 #[.slice nao m ncp] w2 fun e w' => RetS m (fun ao cap => IntsI w' w2.heap.size (.slice ao m cap) m X) e ∧ w2.Since w2.heap.size w') := copyInts _ m X w2 (by omega) HN2.out
  go_wp2_with fail
  refine H13.out.mono ?_
  rintro e w3 ⟨⟨na, nc, rfl, hi⟩, hs3⟩
  have HS3 : Hid (w1.Since w1.heap.size w3) := HS2.out.trans (since_le hs3 HS2.out.size)
  have HN3 : Hid (IntsI w3 0 (.slice na m nc) m X) := hi.low (Nat.zero_le _)
  have H14 : Hid (Calls Try.prog 14 #[sv] w3 fun e w' => RetS m (fun ao cap => RowsI w' (.slice ao m cap) m L Z) e ∧ w3.Since w3.heap.size w') := copyRows sv m L Z w3 (by omega) HLB.out (HR2.out.since hs3)
  clear hi hs3 HS2 H13 HN2 HR2
  go_wp2_with fail
  refine H14.out.mono ?_
  rintro e w4 ⟨⟨ra, rc, rfl, hi⟩, hs4⟩
  have HS4 : Hid (w1.Since w1.heap.size w4) := HS3.out.trans (since_le hs4 HS3.out.size)
  have HN4 : Hid (IntsI w4 0 (.slice na m nc) m X) := HN3.out.since hs4
  have HR4 : Hid (RowsI w4 (.slice ra m rc) m L Z) := hi
  have H16 : Hid (Calls Try.prog 16 #[.slice na m nc, .slice ra m rc] w4 fun e w' => e = .returned (.agg #[.slice na m nc, .slice ra m rc]) ∧ w4.Since w4.heap.size w') := newGraph _ _ w4 na m nc ra m rc rfl rfl
  clear hi hs4 HS3 H14 HN3
  go_wp2_with fail
  refine H16.out.mono ?_
  rintro e w5 ⟨rfl, hs5⟩
  have HB5 : Hid (w4.Since w4.heap.size (w5.alloc (.cells #[.slice na m nc, .slice ra m rc] 31))) := hs5.alloc hs5.size _
  have HS5 : Hid (w1.Since w1.heap.size (w5.alloc (.cells #[.slice na m nc, .slice ra m rc] 31))) := HS4.out.trans (since_le HB5.out HS4.out.size)
  have HN5 : Hid (IntsI (w5.alloc (.cells #[.slice na m nc, .slice ra m rc] 31)) 0 (.slice na m nc) m X) := HN4.out.since HB5.out
  have HR5 : Hid (RowsI (w5.alloc (.cells #[.slice na m nc, .slice ra m rc] 31)) (.slice ra m rc) (toGr m L Z).n (toGr m L Z).L (fun u j => ((toGr m L Z).Z u j : Int))) := HV.out.rows (HR4.out.since HB5.out)
  have H15 : Hid (Calls Try.prog 15 #[.agg #[.slice na m nc, .slice ra m rc]] (w5.alloc (.cells #[.slice na m nc, .slice ra m rc] 31)) fun e w' => RetL (toGr m L Z) e ∧ (w5.alloc (.cells #[.slice na m nc, .slice ra m rc] 31)).Since (w5.alloc (.cells #[.slice na m nc, .slice ra m rc] 31)).heap.size w') := zzLowest _ _ (toGr m L Z) X _ HV.out.ok (by show m ≤ _; omega) HLB.out HN5.out HR5.out
  clear hs5 HS4 H16 HN4 HR4
  go_wp2_with fail
  refine H15.out.mono ?_
  rintro e w6 ⟨⟨l, rfl, hl⟩, hs6⟩
  have HS6 : Hid (w1.Since w1.heap.size w6) := HS5.out.trans (since_le hs6 HS5.out.size)
  have HLW : Hid (LowSpec (toGr m L Z) l) := hl
  have HN6 : Hid (IntsI w6 0 (.slice na m nc) m X) := HN5.out.since hs6
  have HR6 : Hid (RowsI w6 (.slice ra m rc) (toGr m L Z).n (toGr m L Z).L (fun u j => ((toGr m L Z).Z u j : Int))) := HR5.out.since hs6
  have k0 : w6.cell? ⟨w5.heap.size, 0, none⟩ = some (.slice na m nc) := by
    rw [hs6.cell (a := ⟨w5.heap.size, 0, none⟩) (by simp)]
    unfold World.cell?
    rw [blk_alloc_new]
    rfl
  have k1 : w6.cell? ⟨w5.heap.size, 1, none⟩ = some (.slice ra m rc) := by
    rw [hs6.cell (a := ⟨w5.heap.size, 1, none⟩) (by simp)]
    unfold World.cell?
    rw [blk_alloc_new]
    rfl
  have H22 : Hid (Calls Try.prog 22 #[.agg #[.slice na m nc, .slice ra m rc]] w6 fun e w' => (∃ l, LowSpec (toGr m L Z) l ∧ RetC (toGr m L Z) X l w' e) ∧ w6.Since w6.heap.size w') := cycle _ _ (toGr m L Z) X w6 HV.out.ok (by show m ≤ _; omega) (by have := HB.out; show sumTo L m ≤ _; omega) HN6.out HR6.out
  clear hl hs6 HS5 H15 HN5 HR5 HB5
  rcases HLW.out with ⟨rfl, _⟩ | ⟨s, rfl, hsm', hon', _⟩
  · go_wp2
    go_ret
    exact ⟨rfl, HS6.out⟩
  have hs0 : decide ((s : Int) < 0) = false := by simp
  go_wp2_with fail
  refine H22.out.mono ?_
  rintro e w7 ⟨⟨l', hl', hr⟩, hs7⟩
  have HS7 : Hid (w1.Since w1.heap.size w7) := HS6.out.trans (since_le hs7 HS6.out.size)
  have HR7 : Hid (RowsI w7 (.slice ra m rc) (toGr m L Z).n (toGr m L Z).L (fun u j => ((toGr m L Z).Z u j : Int))) := HR6.out.since hs7
  have HO := hr.out HV.out.ok HLW.out hl'
  clear hr hl' hs7 k0 k1 HS6 HN6 HR6 H22
  rcases HO with ⟨h, rfl⟩ | ⟨s', D', len, A, gc, cap, he, hs, hon, rfl, hD, hgir, hA, hcc⟩
  · omega
  obtain rfl : s = s' := by omega
  clear he hon hon' hD hsm' HLW
  have hlm : len ≤ m := hA.le
  have hl2 := hA.two
  have hsm : s < m := hs
  have hg1 : decide (m ≤ s) = false := by simp; omega
  have HGI : Hid (Girth (toGr m L Z) s len) := hgir
  have H26 : Hid (Calls Try.prog 26 #[.slice ra m rc, .int .i64 s] w7 fun e w' => RetF (toGr m L Z) m s w7.heap.size w' e ∧ w7.Since w7.heap.size w') := forwardDist _ (toGr m L Z) s w7 HV.out.ok (by show m ≤ _; omega) HLB.out hs HR7.out
  clear hA hcc hgir hs
  go_wp2_with fail
  refine H26.out.mono ?_
  rintro e w8 ⟨⟨D, rfl, hF, hDb, hrow⟩, hs8⟩
  have HS8 : Hid (w1.Since w1.heap.size w8) := HS7.out.trans (since_le hs8 HS7.out.size)
  have HR8 := HR7.out.since hs8
  obtain ⟨sb, s0, R, C, rb, ro, hrr⟩ := HR8.out
  obtain rfl := (hrr s hsm).1
  have HR : Hid (∀ u, u < m → w8.cell? ⟨sb, s0 + u, none⟩ = some (.slice (R u) (L u) (C u)) ∧ ∀ j, j < L u → R u = some ⟨rb u, ro u, none⟩ ∧ w8.cell? ⟨rb u, ro u + j, none⟩ = some (.int .i64 ((toGr m L Z).Z u j))) := fun u hu => (hrr u hu).2
  have HF : Hid (FromS (toGr m L Z) s D ∧ (∀ y, y < m → D y ≤ m)) := ⟨hF, hDb⟩
  have HRW : Hid (∀ j, j < m → w8.cell? ⟨w7.heap.size, j, none⟩ = some (.int .i64 (D j))) := fun j hj => hrow.cell hj
  clear hrr HR8 HR7 HS7 hs8 hrow hF hDb H26
  go_wp2
  go_loopg [9, 10, 11] m (fun gk b i c wr => ∃ (u : Nat) (best : Int), u ≤ m ∧ gk = m - u ∧ i = .int .i64 u ∧ b = .int .i64 best ∧ wr = w8 ∧ (-1 ≤ best ∧ best ≤ 32769) ∧ Hid (BestOk (toGr m L Z) s D u best))
  case atStart => exact ⟨0, -1, Nat.zero_le _, rfl, rfl, rfl, rfl, by omega, Or.inl ⟨rfl, fun x hx => by omega⟩⟩
  case round =>
    obtain ⟨u, best, hu, rfl, rfl, rfl, rfl, hbb, hB⟩ := hrel
    by_cases hlt : u < m
    · have c0 := HRW.out u hlt
      have hDu := HF.out.2 u hlt
      by_cases hd : 0 ≤ D u
      · obtain ⟨c1, hents⟩ := HR.out u hlt
        have H24 : Hid (Calls Try.prog 24 #[.slice (R u) (L u) (C u), .int .i64 s] wr fun e w' => RetI (∃ j, j < L u ∧ (toGr m L Z).Z u j = s) e ∧ w' = wr) := hasArc (R u) (L u) (C u) (rb u) (ro u) ((toGr m L Z).Z u) s wr (HLB.out _ hlt) hents
        have HB1 : Hid (∀ b : Bool, (b = true ↔ Edge (toGr m L Z) u s) → BestOk (toGr m L Z) s D (u + 1) (if b then (if best < 0 ∨ D u + 1 < best then D u + 1 else best) else best)) := fun b hb => hB.out.step hd b hb
        clear hents
        have hdt : decide (0 ≤ D u) = true := by simp; exact hd
        generalize hDD : D u = du at *
        clear hDD
        go_wp2_with fail
        refine H24.out.mono ?_
        rintro e w9 ⟨⟨b, rfl, hb⟩, rfl⟩
        have HB2 : Hid (BestOk (toGr m L Z) s D (u + 1) (if b then (if best < 0 ∨ du + 1 < best then du + 1 else best) else best)) := HB1.out b hb
        clear H24 hb HB1
        cases b with
        | false =>
          go_wp2
          go_roundg (m - (u + 1))
          case measure => omega
          case rel => exact ⟨u + 1, best, by omega, rfl, by go_num, rfl, rfl, hbb, HB2.out⟩
        | true =>
          by_cases hb0 : best < 0
          · have hb0' : decide (best < 0) = true := by simp; exact hb0
            have HB3 : Hid (BestOk (toGr m L Z) s D (u + 1) (du + 1)) := by have := HB2.out; rw [if_pos rfl, if_pos (Or.inl hb0)] at this; exact this
            clear HB2
            go_wp2
            go_roundg (m - (u + 1))
            case measure => omega
            case rel => exact ⟨u + 1, du + 1, by omega, rfl, by go_num, by go_num, rfl, by omega, HB3.out⟩
          · have hb0' : decide (best < 0) = false := by simp; omega
            by_cases hb1 : du + 1 < best
            · have hb1' : decide (du + 1 < best) = true := by simp; exact hb1
              have HB3 : Hid (BestOk (toGr m L Z) s D (u + 1) (du + 1)) := by have := HB2.out; rw [if_pos rfl, if_pos (Or.inr hb1)] at this; exact this
              clear HB2
              go_wp2
              go_roundg (m - (u + 1))
              case measure => omega
              case rel => exact ⟨u + 1, du + 1, by omega, rfl, by go_num, by go_num, rfl, by omega, HB3.out⟩
            · have hb1' : decide (du + 1 < best) = false := by simp; omega
              have HB3 : Hid (BestOk (toGr m L Z) s D (u + 1) best) := by have := HB2.out; rw [if_pos rfl, if_neg (by omega)] at this; exact this
              clear HB2
              go_wp2
              go_roundg (m - (u + 1))
              case measure => omega
              case rel => exact ⟨u + 1, best, by omega, rfl, by go_num, rfl, rfl, hbb, HB3.out⟩
      · have HB1 : Hid (BestOk (toGr m L Z) s D (u + 1) best) := hB.out.skip (by omega)
        have hdt : decide (0 ≤ D u) = false := by simp; omega
        generalize hDD : D u = du at *
        clear hDD
        go_wp2
        go_roundg (m - (u + 1))
        case measure => omega
        case rel => exact ⟨u + 1, best, by omega, rfl, by go_num, rfl, rfl, hbb, HB1.out⟩
    · obtain rfl : u = m := by omega
      obtain rfl : best = len := hB.out.girth HF.out.1 HGI.out HV.out.ok hsm
      have hbe : ((len : Int) == (len : Int)) = true := by simp
      have hb2 : decide (2 ≤ (len : Int)) = true := by simp; omega
      go_wp2
      go_ret
      exact ⟨rfl, HS8.out⟩
end Go.Proofs.Qxb6600028a
