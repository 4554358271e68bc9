import Derived.Test.Qxb6600028aReach
import Derived.Test.Qxb6600028aKahnMem
import Derived.Test.Qxb6600028aBfs
namespace Go.Proofs.Qxb6600028a
open Go.RowKit Go.Deep

set_option maxHeartbeats 400000 in
theorem placeOf (nv : Value) (n : Nat) (X : Nat → Int) (p : Nat) (x : Int) (w : World) (hn : n ≤ 1048576) (hp : p < n) (hx : x = X p) (hasc : ∀ i j, i < j → j < n → X i < X j) (hN : IntsI w 0 nv n X) :
    Calls Try.prog 23 #[nv, .int .i64 x] w fun e w' => e = .returned (.int .i64 p) ∧ w' = w := by
  obtain ⟨ao, b, o, cap, rfl, hc⟩ := hN
  obtain rfl := (hc p hp).1
  have hc' : ∀ j, j < n → w.cell? ⟨b, o + j, none⟩ = some (.int .i64 (X j)) := fun j hj => (hc j hj).2.2
  have HA : Hid (∀ i j, i < j → j < n → X i < X j) := hasc
  have HX : Hid (x = X p) := hx
  clear hc hasc hx
  go_enter Try.func23, Try.ntmps23
  go_wp2
  go_loopg [5, 6] n (fun gk il ih wr => w = wr ∧ ∃ lo hi : Nat, lo ≤ p ∧ p ≤ hi ∧ hi ≤ n ∧ gk = hi - lo ∧ il = .int .i64 lo ∧ ih = .int .i64 hi)
  case atStart => exact ⟨rfl, 0, n, by omega, by omega, by omega, rfl, rfl, rfl⟩
  case round =>
    obtain ⟨rfl, lo, hi, h1, h2, h3, rfl, rfl, rfl⟩ := hrel
    by_cases hlt : lo < hi
    · have hm : lo + (hi - lo) / 2 < n := by omega
      have c0 : w.cell? ⟨b, o + (lo + (hi - lo) / 2), none⟩ = some (.int .i64 (X (lo + (hi - lo) / 2))) := hc' _ hm
      by_cases hb : X (lo + (hi - lo) / 2) < x
      · have hpm : lo + (hi - lo) / 2 < p := by
          rcases Nat.lt_or_ge (lo + (hi - lo) / 2) p with h | h
          · exact h
          · exfalso
            rw [HX.out] at hb
            by_cases e : p = lo + (hi - lo) / 2
            · rw [e] at hb; omega
            · have := HA.out p (lo + (hi - lo) / 2) (by omega) hm; omega
        generalize hxm : X (lo + (hi - lo) / 2) = xm at *
        clear hxm hc'
        go_wp2
        go_roundg (hi - (lo + (hi - lo) / 2 + 1))
        case measure => omega
        case rel => exact ⟨rfl, lo + (hi - lo) / 2 + 1, hi, by omega, h2, h3, rfl, by go_num, rfl⟩
      · have hpm : p ≤ lo + (hi - lo) / 2 := by
          rcases Nat.lt_or_ge (lo + (hi - lo) / 2) p with h | h
          · exfalso
            have := HA.out (lo + (hi - lo) / 2) p h hp
            rw [HX.out] at hb; omega
          · exact h
        generalize hxm : X (lo + (hi - lo) / 2) = xm at *
        clear hxm hc'
        go_wp2
        go_roundg (lo + (hi - lo) / 2 - lo)
        case measure => omega
        case rel => exact ⟨rfl, lo, lo + (hi - lo) / 2, h1, hpm, by omega, rfl, rfl, by go_num⟩
    · obtain rfl : lo = p := by omega
      have c0 := hc' lo hp
      rw [← HX.out] at c0
      have he : (x == x) = true := by simp
      clear hc'
      go_wp2
      go_ret
      exact ⟨rfl, rfl⟩

set_option maxHeartbeats 400000 in
theorem hasArc (ra : Option Addr) (L rc rb ro : Nat) (Z : Nat → Nat) (y : Nat) (w : World) (hL : L ≤ 1048576) (hc : ∀ j, j < L → ra = some ⟨rb, ro, none⟩ ∧ w.cell? ⟨rb, ro + j, none⟩ = some (.int .i64 (Z j))) :
    Calls Try.prog 24 #[.slice ra L rc, .int .i64 y] w fun e w' => RetI (∃ j, j < L ∧ Z j = y) e ∧ w' = w := by
  rcases Nat.eq_zero_or_pos L with hz | hp
  · subst hz
    go_enter Try.func24, Try.ntmps24
    go_wp2
    refine wp_loop_rounds 1 ?_
    rw [rounds_succ]
    go_wp2
    go_ret
    exact ⟨⟨false, rfl, by simp⟩, rfl⟩
  obtain rfl := (hc 0 hp).1
  have hc' : ∀ j, j < L → w.cell? ⟨rb, ro + j, none⟩ = some (.int .i64 (Z j)) := fun j hj => (hc j hj).2
  clear hc
  go_enter Try.func24, Try.ntmps24
  go_wp2
  go_loopg [5] L (fun gk i wr => w = wr ∧ ∃ j : Nat, j ≤ L ∧ gk = L - j ∧ i = .int .i64 j ∧ Hid (∀ j', j' < j → Z j' ≠ y))
  case atStart => exact ⟨rfl, 0, by omega, rfl, rfl, fun j' h => by omega⟩
  case round =>
    obtain ⟨rfl, j, hj, rfl, rfl, hH⟩ := hrel
    by_cases hlt : j < L
    · have c0 := hc' j hlt
      by_cases e : Z j = y
      · have he : ((Z j : Int) == (y : Int)) = true := by rw [e]; simp
        have HE : Hid (Z j = y) := e
        clear e hc'
        generalize hzx : Z j = x at *
        have HZ : Hid (Z j = x) := hzx
        clear hzx
        go_wp2
        go_ret
        exact ⟨⟨true, rfl, by simp only [true_iff]; exact ⟨j, hlt, by rw [HZ.out]; exact HE.out⟩⟩, rfl⟩
      · have he : ((Z j : Int) == (y : Int)) = false := by simp only [beq_eq_false_iff_ne, ne_eq, Int.natCast_inj]; exact e
        have HE : Hid (¬ Z j = y) := e
        clear e hc'
        generalize hzx : Z j = x at *
        have HZ : Hid (Z j = x) := hzx
        clear hzx
        go_wp2
        go_roundg (L - (j + 1))
        case measure => omega
        case rel =>
          refine ⟨rfl, j + 1, by omega, rfl, by go_num, fun j' hj' => ?_⟩
          by_cases e' : j' = j
          · rw [e', HZ.out]; exact HE.out
          · exact hH.out j' (by omega)
    · clear hc'
      go_wp2
      go_ret
      refine ⟨⟨false, rfl, ?_⟩, rfl⟩
      simp only [Bool.false_eq_true, false_iff]
      rintro ⟨j', h1, h2⟩
      exact hH.out j' (by omega) h2
end Go.Proofs.Qxb6600028a
