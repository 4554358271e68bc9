import Derived.Test.Qxb6600028aZz
import Derived.Test.Qxb6600028aSmall
import Derived.Test.Qxb6600028aKahnWalk
namespace Go.Proofs.Qxb6600028a
open Go.RowKit Go.Deep

/-- The graph that the rows say. -/
def toGr (n : Nat) (L : Nat → Nat) (Z : Nat → Nat → Int) : Gr := ⟨n, L, fun u j => (Z u j).toNat⟩

theorem VG.ok {n m : Nat} {X : Nat → Int} {L : Nat → Nat} {Z : Nat → Nat → Int} (h : VG n m X L Z) : GOk (toGr n L Z) := by
  refine ⟨fun u hu j hj => ?_, fun u hu j hj => ?_⟩
  · have := h.rng u hu j hj
    show (Z u j).toNat < n ∧ (Z u j).toNat ≠ u
    omega
  · have h1 := h.rng u hu j (by have : j + 1 < L u := hj; omega)
    have h2 := h.row u hu j hj
    show (Z u j).toNat < (Z u (j + 1)).toNat
    omega

theorem VG.rows {n m : Nat} {X : Nat → Int} {L : Nat → Nat} {Z : Nat → Nat → Int} (h : VG n m X L Z) {w : World} {v : Value} (hr : RowsI w v n L Z) : RowsI w v (toGr n L Z).n (toGr n L Z).L (fun u j => ((toGr n L Z).Z u j : Int)) := by
  obtain ⟨ao, b, o, cap, R, C, rb, ro, hv, hc⟩ := hr
  refine ⟨ao, b, o, cap, R, C, rb, ro, hv, fun u hu => ⟨(hc u hu).1, (hc u hu).2.1, fun j hj => ⟨((hc u hu).2.2 j hj).1, ?_⟩⟩⟩
  rw [((hc u hu).2.2 j hj).2]
  have := (h.rng u hu j hj).1
  show some (Value.int .i64 (Z u j)) = some (Value.int .i64 ((Z u j).toNat : Int))
  rw [Int.toNat_of_nonneg this]

def allTo (don : Nat → Bool) : Nat → Bool
  | 0 => true
  | k + 1 => allTo don k && don k
theorem allTo_all {don : Nat → Bool} : ∀ {k : Nat}, (∀ i, i < k → don i = true) → allTo don k = true
  | 0, _ => rfl
  | k + 1, h => by
    have h1 := allTo_all (k := k) (fun i hi => h i (by omega))
    have h2 := h k (by omega)
    simp [allTo, h1, h2]

set_option maxRecDepth 100000 in
set_option maxHeartbeats 2000000 in
theorem law4 (n m : Nat) (X : Nat → Int) (L : Nat → Nat) (Z : Nat → Nat → Int) (nv sv : Value) (w : World) (hn : n ≤ 9223372036854775807) (hm : m ≤ 9223372036854775807) (hL : ∀ u, u < m → L u ≤ 9223372036854775807)
    (hN : IntsI w 0 nv n X) (hS : RowsI w sv m L Z) :
    Calls Try.prog 4 #[nv, sv] w fun e w' => e = .returned (.bool true) ∧ w.Since w.heap.size w' := by
  have c18 := zzB18 n m X L Z nv sv w hn hm hL hN hS
  have c10 := bytesWithin n m X L Z nv sv w hn hm hL hN hS
  have H18 : Hid (Calls Try.prog 18 #[nv, sv] w fun e w' => RetB True e ∧ w' = w) := c18
  have H10 : Hid (Calls Try.prog 10 #[nv, sv, .int .i64 1048576] w fun e w' => RetB (8 * n + 24 * m + 8 * sumTo L m ≤ 1048576) e ∧ w' = w) := c10
  have HN : Hid (IntsI w 0 nv n X) := hN
  have HS : Hid (RowsI w sv m L Z) := hS
  clear c18 c10 hN hS hL hn hm
  go_enter Try.func4, Try.ntmps4
  go_wp2_with fail
  refine H18.out.mono ?_
  rintro e w1 ⟨⟨b, rfl, -⟩, rfl⟩
  cases b with
  | false =>
    go_wp2
    go_ret
    exact ⟨rfl, World.Since.refl _ _⟩
  | true =>
  go_wp2_with fail
  refine H10.out.mono ?_
  rintro e w1 ⟨⟨b, rfl, hb⟩, rfl⟩
  cases b with
  | false =>
    go_wp2
    go_ret
    exact ⟨rfl, World.Since.refl _ _⟩
  | true =>
  have hb' := hb rfl
  clear hb
  have HB : Hid (8 * n + 24 * m + 8 * sumTo L m ≤ 1048576) := hb'
  have hLb : ∀ u, u < m → L u ≤ 1048576 := fun u hu => by have := sumTo_term (f := L) hu; omega
  have H11 : Hid (Calls Try.prog 11 #[nv, sv] w1 fun e w' => RetB (VG n m X L Z) e ∧ w1.Since w1.heap.size w') := validGraph n m X L Z nv sv w1 (by omega) (by omega) hLb HN.out HS.out
  have HLB : Hid (∀ u, u < m → L u ≤ 1048576) := hLb
  clear hb' hLb H18 H10
  go_wp2_with fail
  refine H11.out.mono ?_
  rintro e w2 ⟨⟨b, rfl, hb⟩, hs2⟩
  cases b with
  | false =>
    go_wp2
    go_ret
    exact ⟨rfl, hs2⟩
  | true =>
  have HV : Hid (VG n m X L Z) := hb rfl
  have HS2 : Hid (w1.Since w1.heap.size w2) := hs2
  have hmn := (hb rfl).len
  clear hb hs2 H11
  subst hmn
  have HN2 : Hid (IntsI w2 0 nv m X) := HN.out.since HS2.out
  have HR2 : Hid (RowsI w2 sv m L Z) := HS.out.since HS2.out
  clear HN HS
  have hm' : m ≤ 32768 := by have := HB.out; omega
  have H13 : Hid (Calls Try.prog 13 #[nv] w2 fun e w' => RetS m (fun ao cap => IntsI w' w2.heap.size (.slice ao m cap) m X) e ∧ w2.Since w2.heap.size w') := copyInts nv m X w2 (by omega) HN2.out
  go_wp2_with fail
  refine H13.out.mono ?_
  rintro e w3 ⟨⟨na, nc, rfl, hi⟩, hs3⟩
  have HS3 : Hid (w1.Since w1.heap.size w3) := HS2.out.trans (since_le hs3 HS2.out.size)
  have HN3 : Hid (IntsI w3 0 (.slice na m nc) m X) := hi.low (Nat.zero_le _)
  have H14 : Hid (Calls Try.prog 14 #[sv] w3 fun e w' => RetS m (fun ao cap => RowsI w' (.slice ao m cap) m L Z) e ∧ w3.Since w3.heap.size w') := copyRows sv m L Z w3 (by omega) HLB.out (HR2.out.since hs3)
  clear hi hs3 HS2 H13 HN2 HR2
  go_wp2_with fail
  refine H14.out.mono ?_
  rintro e w4 ⟨⟨ra, rc, rfl, hi⟩, hs4⟩
  have HS4 : Hid (w1.Since w1.heap.size w4) := HS3.out.trans (since_le hs4 HS3.out.size)
  have HN4 : Hid (IntsI w4 0 (.slice na m nc) m X) := HN3.out.since hs4
  have HR4 : Hid (RowsI w4 (.slice ra m rc) m L Z) := hi
  have H16 : Hid (Calls Try.prog 16 #[.slice na m nc, .slice ra m rc] w4 fun e w' => e = .returned (.agg #[.slice na m nc, .slice ra m rc]) ∧ w4.Since w4.heap.size w') := newGraph _ _ w4 na m nc ra m rc rfl rfl
  clear hi hs4 HS3 H14 HN3
  go_wp2_with fail
  refine H16.out.mono ?_
  rintro e w5 ⟨rfl, hs5⟩
  have HS5 : Hid (w1.Since w1.heap.size w5) := HS4.out.trans (since_le hs5 HS4.out.size)
  have HN5 : Hid (IntsI w5 0 (.slice na m nc) m X) := HN4.out.since hs5
  have HR5 : Hid (RowsI w5 (.slice ra m rc) m L Z) := HR4.out.since hs5
  have H15 : Hid (Calls Try.prog 15 #[.agg #[.slice na m nc, .slice ra m rc]] w5 fun e w' => RetL (toGr m L Z) e ∧ w5.Since w5.heap.size w') := zzLowest _ _ (toGr m L Z) X w5 HV.out.ok (by show m ≤ _; omega) HLB.out HN5.out (HV.out.rows HR5.out)
  clear hs5 HS4 H16 HN4 HR4
  go_wp2_with fail
  refine H15.out.mono ?_
  rintro e w6 ⟨⟨l, rfl, hl⟩, hs6⟩
  have HS6 : Hid (w1.Since w1.heap.size w6) := HS5.out.trans (since_le hs6 HS5.out.size)
  have HLW : Hid (LowSpec (toGr m L Z) l) := hl
  have HR6 : Hid (RowsI w6 (.slice ra m rc) m L Z) := HR5.out.since hs6
  have H19 : Hid (Calls Try.prog 19 #[.slice ra m rc] w6 fun e w' => RetK (toGr m L Z) m (w6.heap.size + 1) w' e ∧ w6.Since w6.heap.size w') := kahn _ (toGr m L Z) w6 HV.out.ok (by show m ≤ _; omega) (by have := HB.out; show sumTo L m ≤ _; omega) (HV.out.rows HR6.out)
  clear hl hs6 HS5 H15 HN5 HR5
  go_wp2_with fail
  refine H19.out.mono ?_
  rintro e w7 ⟨⟨don, rfl, hk, hrow⟩, hs7⟩
  have HS7 : Hid (w1.Since w1.heap.size w7) := HS6.out.trans (since_le hs7 HS6.out.size)
  have HK : Hid (KahnOk (toGr m L Z) don) := hk
  have HROW : Hid (w7.rowIs (w6.heap.size + 1) 4 m (fun j => .bool (don j))) := hrow
  clear hk hrow hs7 HS6 H19 HR6
  generalize w6.heap.size + 1 = B at *
  go_wp2
  go_loopg [7, 8] m (fun gk al i wr => w7 = wr ∧ ∃ k : Nat, k ≤ m ∧ gk = m - k ∧ i = .int .i64 k ∧ al = .bool (allTo don k))
  case atStart => exact ⟨rfl, 0, Nat.zero_le _, rfl, rfl, rfl⟩
  case round =>
    obtain ⟨rfl, k, hk, rfl, rfl, rfl⟩ := hrel
    by_cases hlt : k < m
    · have hc := HROW.out.cell hlt
      have HA : Hid (allTo don (k + 1) = (allTo don k && don k)) := rfl
      generalize hal : allTo don k = al at *
      generalize hdk : don k = dk at *
      clear hal hdk
      cases dk with
      | true =>
        go_wp2
        go_roundg (m - (k + 1))
        case measure => omega
        case rel => exact ⟨rfl, k + 1, by omega, rfl, by go_num, by rw [HA.out, Bool.and_true]⟩
      | false =>
        go_wp2
        go_roundg (m - (k + 1))
        case measure => omega
        case rel => exact ⟨rfl, k + 1, by omega, rfl, by go_num, by rw [HA.out, Bool.and_false]⟩
    · obtain rfl : k = m := by omega
      rcases HLW.out with ⟨rfl, hno⟩ | ⟨p, rfl, hp, hon, _⟩
      · have ha := allTo_all (HK.out.all hno)
        rw [show (toGr k L Z).n = k from rfl] at ha
        rw [ha]
        clear ha hno
        go_wp2
        go_ret
        exact ⟨rfl, HS7.out⟩
      · have hpk : p < k := hp
        have hc := HROW.out.cell hpk
        simp only [HK.out.cyc p hp hon] at hc
        clear hp hon
        generalize allTo don k = al
        go_wp2
        go_ret
        exact ⟨rfl, HS7.out⟩
end Go.Proofs.Qxb6600028a
