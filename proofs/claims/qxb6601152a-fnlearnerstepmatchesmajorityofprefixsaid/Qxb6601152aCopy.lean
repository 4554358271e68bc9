import Derived.Test.Qxb6601152aBase
import Derived.Handy
namespace Go.Proofs.Qxb6601152a
open Go.RowKit Go.Deep

set_option maxHeartbeats 400000 in
theorem zzClone (v : Value) (n : Nat) (X : Nat → Int) (w : World) (hn : n ≤ 1048576) (hN : IntsI w 0 v n X) :
    Calls Try.prog 7 #[v] w fun e w' => RetS n (fun ao cap => IntsI w' w.heap.size (.slice ao n cap) n X) e ∧ w.Since w.heap.size w' := by
  obtain ⟨ao, b, o, cap, rfl, hc⟩ := hN
  have hnil := nil22
  cases ao with
  | none =>
    obtain rfl : n = 0 := by
      rcases Nat.eq_zero_or_pos n with h | h
      · exact h
      · have := (hc 0 h).1; simp at this
    go_enter Try.func7, Try.ntmps7
    go_wp2
    go_ret
    exact ⟨⟨_, _, rfl, none, 0, 0, 0, rfl, fun j hj => by omega⟩, World.Since.refl _ _⟩
  | some a =>
    have hmk := run_make_row' (P := Try.prog) 22 30 (.int .u64 0) 8 Try.underlying22 Try.info30 rfl .i64 .i64 n (by omega) (by omega)
    go_enter Try.func7, Try.ntmps7
    go_wp2
    go_loopg [4] n (fun g i wr => ∃ k : Nat, k ≤ n ∧ g = n - k ∧ i = .int .i64 k ∧ w.Since w.heap.size wr ∧ wr.rowIs w.heap.size 30 n (fun j => if j < k then .int .u64 (X j) else .int .u64 0))
    case atStart => exact ⟨0, Nat.zero_le _, rfl, rfl, (World.Since.refl _ _).alloc (Nat.le_refl _) _, (World.rowIs_made w _ n 30).congr (fun j _ => by simp)⟩
    case round =>
      obtain ⟨k, hk, rfl, rfl, hs, hr⟩ := hrel
      clear hmk hnil
      by_cases hlt : k < n
      · obtain ⟨ha, _, hcc⟩ := hc k hlt
        simp only [Option.some.injEq] at ha
        have h1 : wr.cell? ⟨b, o + k, none⟩ = some (.int .u64 (X k)) := by rw [hs.cell (a := ⟨b, o + k, none⟩) (World.block_lt_of_cell? _ _ hcc)]; exact hcc
        have h2 : wr.cell? ⟨w.heap.size, k, none⟩ = some (.int .u64 0) := by simpa using hr.cell hlt
        have h3 : wr.frozen? ⟨w.heap.size, k, none⟩ = false := hr.frozen k
        subst ha
        clear hcc hc
        go_wp2
        go_roundg (n - (k + 1))
        case measure => omega
        case rel =>
          refine ⟨k + 1, by omega, rfl, rfl, hs.setCell (Nat.le_refl _) _, (hr.set k _).congr (fun j _ => ?_)⟩
          by_cases e : j = k
          · subst e; simp
          · simp only [e, if_false]; by_cases h : j < k
            · rw [if_pos h, if_pos (by omega)]
            · rw [if_neg h, if_neg (by omega)]
      · go_wp2
        go_ret
        refine ⟨⟨_, _, rfl, _, w.heap.size, 0, n, rfl, fun j hj => ⟨rfl, Nat.le_refl _, ?_⟩⟩, hs⟩
        rw [Nat.zero_add, hr.cell hj, if_pos (by omega)]

theorem zzMessage (z : ZM) (w : World) :
    Calls Try.prog 13 #[.agg z.cells.toArray] w fun e w' => e = .returned (.agg z.cells.toArray) ∧ w.Since w.heap.size w' := by
  unfold ZM.cells
  go_enter Try.func13, Try.ntmps13
  go_wp2
  go_returns
  exact ⟨rfl, ((World.Since.refl _ _).alloc (Nat.le_refl _) _).alloc (by simp) _⟩
end Go.Proofs.Qxb6601152a
