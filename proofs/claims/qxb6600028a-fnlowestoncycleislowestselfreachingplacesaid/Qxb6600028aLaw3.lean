import Derived.Test.Qxb6600028aLawBase
import Derived.Test.Qxb6600028aReachWalk
namespace Go.Proofs.Qxb6600028a
open Go.RowKit Go.Deep

set_option maxRecDepth 100000 in
set_option maxHeartbeats 2000000 in
theorem law3 (n m : Nat) (X : Nat → Int) (L : Nat → Nat) (Z : Nat → Nat → Int) (nv sv : Value) (w : World) (hn : n ≤ 9223372036854775807) (hm : m ≤ 9223372036854775807) (hL : ∀ u, u < m → L u ≤ 9223372036854775807)
    (hN : IntsI w 0 nv n X) (hS : RowsI w sv m L Z) :
    Calls Try.prog 3 #[nv, sv] w fun e w' => e = .returned (.bool true) ∧ w.Since w.heap.size w' := by
  have c18 := zzB9 n m X L Z nv sv w hn hm hL hN hS
  have c10 := bytesWithin n m X L Z nv sv w hn hm hL hN hS
  have H18 : Hid (Calls Try.prog 9 #[nv, sv] w fun e w' => RetB True e ∧ w' = w) := c18
  have H10 : Hid (Calls Try.prog 10 #[nv, sv, .int .i64 1048576] w fun e w' => RetB (8 * n + 24 * m + 8 * sumTo L m ≤ 1048576) e ∧ w' = w) := c10
  have HN : Hid (IntsI w 0 nv n X) := hN
  have HS : Hid (RowsI w sv m L Z) := hS
  have HNV : Hid (∃ ao c, nv = .slice ao n c) := by obtain ⟨ao, _, _, c, h, _⟩ := hN; exact ⟨ao, c, h⟩
  clear c18 c10 hN hS hL hm
  go_enter Try.func3, Try.ntmps3
  go_wp2_with fail
  refine H18.out.mono ?_
  rintro e w1 ⟨⟨b, rfl, -⟩, rfl⟩
  cases b with
  | false =>
    go_wp2
    go_ret
    exact ⟨rfl, World.Since.refl _ _⟩
  | true =>
  go_wp2_with fail
  refine H10.out.mono ?_
  rintro e w1 ⟨⟨b, rfl, hb⟩, rfl⟩
  cases b with
  | false =>
    go_wp2
    go_ret
    exact ⟨rfl, World.Since.refl _ _⟩
  | true =>
  have hb' := hb rfl
  clear hb
  have HB : Hid (8 * n + 24 * m + 8 * sumTo L m ≤ 1048576) := hb'
  have hLb : ∀ u, u < m → L u ≤ 1048576 := fun u hu => by have := sumTo_term (f := L) hu; omega
  have H11 : Hid (Calls Try.prog 11 #[nv, sv] w1 fun e w' => RetB (VG n m X L Z) e ∧ w1.Since w1.heap.size w') := validGraph n m X L Z nv sv w1 (by omega) (by omega) hLb HN.out HS.out
  have HLB : Hid (∀ u, u < m → L u ≤ 1048576) := hLb
  clear hb' hLb H18 H10
  obtain ⟨nao, ncp, rfl⟩ := HNV.out
  clear HNV
  by_cases hq1 : 1024 < n
  · go_wp2
    go_ret
    exact ⟨rfl, World.Since.refl _ _⟩
  go_wp2_with fail
  refine H11.out.mono ?_
  rintro e w2 ⟨⟨b, rfl, hb⟩, hs2⟩
  cases b with
  | false =>
    go_wp2
    go_ret
    exact ⟨rfl, hs2⟩
  | true =>
  have HV : Hid (VG n m X L Z) := hb rfl
  have HS2 : Hid (w1.Since w1.heap.size w2) := hs2
  have hmn := (hb rfl).len
  clear hb hs2 H11
  subst hmn
  have HN2 : Hid (IntsI w2 0 (.slice nao m ncp) m X) := HN.out.since HS2.out
  have HR2 : Hid (RowsI w2 sv m L Z) := HS.out.since HS2.out
  clear HN HS
  have hm' : m ≤ 32768 := by have := HB.out; omega
  have H12 : Hid (Calls Try.prog 12 #[sv] w2 fun e w' => e = .returned (.int .i64 (sumTo L m)) ∧ w' = w2) := arcCount m L Z sv w2 (by omega) (fun k hk => by have := HB.out; have := sumTo_le (f := L) hk; omega) HR2.out
  go_wp2_with fail
  refine H12.out.mono ?_
  rintro e w2' ⟨rfl, rfl⟩
  clear H12
  have hsl : sumTo L m ≤ 1048576 := by have := HB.out; omega
  by_cases hq2 : 16384 < sumTo L m
  · go_wp2
    go_ret
    exact ⟨rfl, HS2.out⟩
  have H13 : Hid (Calls Try.prog 13 #[.slice nao m ncp] w2' fun e w' => RetS m (fun ao cap => IntsI w' w2'.heap.size (.slice ao m cap) m X) e ∧ w2'.Since w2'.heap.size w') := copyInts _ m X w2' (by omega) HN2.out
  go_wp2_with fail
  refine H13.out.mono ?_
  rintro e w3 ⟨⟨na, nc, rfl, hi⟩, hs3⟩
  have HS3 : Hid (w1.Since w1.heap.size w3) := HS2.out.trans (since_le hs3 HS2.out.size)
  have HN3 : Hid (IntsI w3 0 (.slice na m nc) m X) := hi.low (Nat.zero_le _)
  have H14 : Hid (Calls Try.prog 14 #[sv] w3 fun e w' => RetS m (fun ao cap => RowsI w' (.slice ao m cap) m L Z) e ∧ w3.Since w3.heap.size w') := copyRows sv m L Z w3 (by omega) HLB.out (HR2.out.since hs3)
  clear hi hs3 HS2 H13 HN2 HR2
  go_wp2_with fail
  refine H14.out.mono ?_
  rintro e w4 ⟨⟨ra, rc, rfl, hi⟩, hs4⟩
  have HS4 : Hid (w1.Since w1.heap.size w4) := HS3.out.trans (since_le hs4 HS3.out.size)
  have HN4 : Hid (IntsI w4 0 (.slice na m nc) m X) := HN3.out.since hs4
  have HR4 : Hid (RowsI w4 (.slice ra m rc) m L Z) := hi
  have H16 : Hid (Calls Try.prog 16 #[.slice na m nc, .slice ra m rc] w4 fun e w' => e = .returned (.agg #[.slice na m nc, .slice ra m rc]) ∧ w4.Since w4.heap.size w') := newGraph _ _ w4 na m nc ra m rc rfl rfl
  clear hi hs4 HS3 H14 HN3
  go_wp2_with fail
  refine H16.out.mono ?_
  rintro e w5 ⟨rfl, hs5⟩
  have HS5 : Hid (w1.Since w1.heap.size w5) := HS4.out.trans (since_le hs5 HS4.out.size)
  have HN5 : Hid (IntsI w5 0 (.slice na m nc) m X) := HN4.out.since hs5
  have HR5 : Hid (RowsI w5 (.slice ra m rc) m L Z) := HR4.out.since hs5
  have H15 : Hid (Calls Try.prog 15 #[.agg #[.slice na m nc, .slice ra m rc]] w5 fun e w' => RetL (toGr m L Z) e ∧ w5.Since w5.heap.size w') := zzLowest _ _ (toGr m L Z) X w5 HV.out.ok (by show m ≤ _; omega) HLB.out HN5.out (HV.out.rows HR5.out)
  clear hs5 HS4 H16 HN4 HR4
  go_wp2_with fail
  refine H15.out.mono ?_
  rintro e w6 ⟨⟨l, rfl, hl⟩, hs6⟩
  have HS6 : Hid (w1.Since w1.heap.size w6) := HS5.out.trans (since_le hs6 HS5.out.size)
  have HLW : Hid (LowSpec (toGr m L Z) l) := hl
  have HR6 : Hid (RowsI w6 (.slice ra m rc) m L Z) := HR5.out.since hs6
  clear hl hs6 HS5 H15 HN5 HR5
  go_wp2
  go_loopg [6, 7] m (fun gk wt i wr => ∃ p : Nat, p ≤ m ∧ gk = m - p ∧ i = .int .i64 p ∧ wt = .int .i64 (-1) ∧ Hid ((∀ q, q < p → ¬ OnC (toGr m L Z) q) ∧ w1.Since w1.heap.size wr ∧ RowsI wr (.slice ra m rc) m L Z))
  case atStart => exact ⟨0, Nat.zero_le _, rfl, rfl, rfl, fun q hq => by omega, HS6.out, HR6.out⟩
  case round =>
    clear HS6 HR6
    obtain ⟨p, hp, rfl, rfl, rfl, hH⟩ := hrel
    by_cases hlt : p < m
    · have H17 : Hid (Calls Try.prog 17 #[.slice ra m rc, .int .i64 p] wr fun e w' => RetI (OnC (toGr m L Z) p) e ∧ wr.Since wr.heap.size w') := reaches _ (toGr m L Z) p wr HV.out.ok (by show m ≤ _; omega) HLB.out hlt (HV.out.rows hH.out.2.2)
      go_wp2_with fail
      refine H17.out.mono ?_
      rintro e w7 ⟨⟨b, rfl, hb⟩, hs7⟩
      have HS7 : Hid (w1.Since w1.heap.size w7) := hH.out.2.1.trans (since_le hs7 hH.out.2.1.size)
      have HR7 : Hid (RowsI w7 (.slice ra m rc) m L Z) := hH.out.2.2.since hs7
      have HC : Hid (b = true ↔ OnC (toGr m L Z) p) := hb
      clear hb hs7 H17
      cases b with
      | true =>
        have hl : l = p := by
          have hc := HC.out.1 rfl
          rcases HLW.out with ⟨_, hno⟩ | ⟨q, hq, hqm, hqc, hmin⟩
          · exact absurd hc (hno p hlt)
          · have h1 := hmin p hlt hc
            by_cases e : q = p
            · rw [hq, e]
            · exact absurd hqc (hH.out.1 q (by omega))
        subst hl
        have he : ((p : Int) == (p : Int)) = true := by simp
        go_wp2
        go_ret
        exact ⟨rfl, HS7.out⟩
      | false =>
        go_wp2
        go_roundg (m - (p + 1))
        case measure => omega
        case rel =>
          refine ⟨p + 1, by omega, rfl, by go_num, rfl, fun q hq => ?_, HS7.out, HR7.out⟩
          by_cases e : q = p
          · intro hc
            rw [e] at hc
            have := HC.out.2 hc
            simp at this
          · exact hH.out.1 q (by omega)
    · have hl : l = -1 := by
        rcases HLW.out with ⟨h, _⟩ | ⟨q, hq, hqm, hqc, _⟩
        · exact h
        · exact absurd hqc (hH.out.1 q (by have : q < m := hqm; omega))
      subst hl
      go_wp2
      go_ret
      exact ⟨rfl, hH.out.2.1⟩
end Go.Proofs.Qxb6600028a
