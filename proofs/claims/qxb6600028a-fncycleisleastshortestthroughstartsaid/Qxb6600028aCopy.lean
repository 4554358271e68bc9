import Derived.Test.Qxb6600028aBase
namespace Go.Proofs.Qxb6600028a
open Go.RowKit Go.Deep
theorem since_le {B B' : Nat} {w w' : World} (h : w.Since B w') (hb : B' ≤ B) : w.Since B' w' := ⟨h.os, h.tape, h.output, h.size, fun k hk => h.block k (by omega)⟩

set_option maxHeartbeats 400000 in
theorem copyInts (v : Value) (n : Nat) (X : Nat → Int) (w : World) (hn : n ≤ 1048576) (hN : IntsI w 0 v n X) :
    Calls Try.prog 13 #[v] w fun e w' => RetS n (fun ao cap => IntsI w' w.heap.size (.slice ao n cap) n X) e ∧ w.Since w.heap.size w' := by
  obtain ⟨ao, b, o, cap, rfl, hc⟩ := hN
  have hnil := nil22
  cases ao with
  | none =>
    obtain rfl : n = 0 := by
      rcases Nat.eq_zero_or_pos n with h | h
      · exact h
      · have := (hc 0 h).1; simp at this
    go_enter Try.func13, Try.ntmps13
    go_wp2
    go_ret
    exact ⟨⟨_, _, rfl, none, 0, 0, 0, rfl, fun j hj => by omega⟩, World.Since.refl _ _⟩
  | some a =>
    have hmk := run_make_row' (P := Try.prog) 22 3 (.int .i64 0) 8 Try.underlying22 Try.info3 rfl .i64 .i64 n (by omega) (by omega)
    go_enter Try.func13, Try.ntmps13
    go_wp2
    go_loopg [4] n (fun g i wr => ∃ k : Nat, k ≤ n ∧ g = n - k ∧ i = .int .i64 k ∧ w.Since w.heap.size wr ∧ wr.rowIs w.heap.size 3 n (fun j => if j < k then .int .i64 (X j) else .int .i64 0))
    case atStart => exact ⟨0, Nat.zero_le _, rfl, rfl, (World.Since.refl _ _).alloc (Nat.le_refl _) _, (World.rowIs_made w _ n 3).congr (fun j _ => by simp)⟩
    case round =>
      obtain ⟨k, hk, rfl, rfl, hs, hr⟩ := hrel
      clear hmk hnil
      by_cases hlt : k < n
      · obtain ⟨ha, _, hcc⟩ := hc k hlt
        simp only [Option.some.injEq] at ha
        have h1 : wr.cell? ⟨b, o + k, none⟩ = some (.int .i64 (X k)) := by rw [hs.cell (a := ⟨b, o + k, none⟩) (World.block_lt_of_cell? _ _ hcc)]; exact hcc
        have h2 : wr.cell? ⟨w.heap.size, k, none⟩ = some (.int .i64 0) := by simpa using hr.cell hlt
        have h3 : wr.frozen? ⟨w.heap.size, k, none⟩ = false := hr.frozen k
        subst ha
        clear hcc hc
        go_wp2
        go_roundg (n - (k + 1))
        case measure => omega
        case rel =>
          refine ⟨k + 1, by omega, rfl, rfl, hs.setCell (Nat.le_refl _) _, (hr.set k _).congr (fun j _ => ?_)⟩
          by_cases e : j = k
          · subst e; simp
          · simp only [e, if_false]; by_cases h : j < k
            · rw [if_pos h, if_pos (by omega)]
            · rw [if_neg h, if_neg (by omega)]
      · go_wp2
        go_ret
        refine ⟨⟨_, _, rfl, _, w.heap.size, 0, n, rfl, fun j hj => ⟨rfl, Nat.le_refl _, ?_⟩⟩, hs⟩
        rw [Nat.zero_add, hr.cell hj, if_pos (by omega)]

set_option maxHeartbeats 800000 in
theorem copyRows (v : Value) (n : Nat) (L : Nat → Nat) (Z : Nat → Nat → Int) (w : World) (hn : n ≤ 1048576) (hL : ∀ u, u < n → L u ≤ 1048576) (hN : RowsI w v n L Z) :
    Calls Try.prog 14 #[v] w fun e w' => RetS n (fun ao cap => RowsI w' (.slice ao n cap) n L Z) e ∧ w.Since w.heap.size w' := by
  obtain ⟨ao, b, o, cap, R, C, rb, ro, rfl, hc⟩ := hN
  have hnil := nil23
  cases ao with
  | none =>
    obtain rfl : n = 0 := by
      rcases Nat.eq_zero_or_pos n with h | h
      · exact h
      · have := (hc 0 h).1; simp at this
    go_enter Try.func14, Try.ntmps14
    go_wp2
    go_ret
    exact ⟨⟨_, _, rfl, none, 0, 0, 0, fun _ => none, fun _ => 0, fun _ => 0, fun _ => 0, rfl, fun j hj => by omega⟩, World.Since.refl _ _⟩
  | some a =>
    have hmk := run_make_row' (P := Try.prog) 23 22 (.slice none 0 0) 24 Try.underlying23 Try.info22 rfl .i64 .i64 n (by omega) (by omega)
    go_enter Try.func14, Try.ntmps14
    go_wp2
    go_loopg [4] n (fun g i wr => ∃ k : Nat, ∃ V : Nat → Value, k ≤ n ∧ g = n - k ∧ i = .int .i64 k ∧ w.Since w.heap.size wr ∧ wr.rowIs w.heap.size 22 n (fun j => if j < k then V j else .slice none 0 0) ∧ ∀ u, u < k → IntsI wr (w.heap.size + 1) (V u) (L u) (Z u))
    case atStart => exact ⟨0, fun _ => .slice none 0 0, Nat.zero_le _, rfl, rfl, (World.Since.refl _ _).alloc (Nat.le_refl _) _, (World.rowIs_made w _ n 22).congr (fun j _ => by simp), fun u hu => by omega⟩
    case round =>
      obtain ⟨k, V, hk, rfl, rfl, hs, hr, hV⟩ := hrel
      clear hmk hnil
      have hsz := hr.lt
      by_cases hlt : k < n
      · obtain ⟨ha, hcc, hce⟩ := hc k hlt
        simp only [Option.some.injEq] at ha
        have h1 : wr.cell? ⟨b, o + k, none⟩ = some (.slice (R k) (L k) (C k)) := by rw [hs.cell (a := ⟨b, o + k, none⟩) (World.block_lt_of_cell? _ _ hcc)]; exact hcc
        have hI : IntsI wr 0 (.slice (R k) (L k) (C k)) (L k) (Z k) := by
          refine ⟨_, rb k, ro k, _, rfl, fun j hj => ⟨(hce j hj).1, Nat.zero_le _, ?_⟩⟩
          rw [hs.cell (a := ⟨rb k, ro k + j, none⟩) (World.block_lt_of_cell? _ _ (hce j hj).2)]; exact (hce j hj).2
        have hcall := copyInts _ (L k) (Z k) wr (hL k hlt) hI
        have HC : Hid (Calls Try.prog 13 #[.slice (R k) (L k) (C k)] wr fun e w' => RetS (L k) (fun ao cap => IntsI w' wr.heap.size (.slice ao (L k) cap) (L k) (Z k)) e ∧ wr.Since wr.heap.size w') := hcall
        clear hcall
        subst ha
        clear hcc hc hce hI hL
        go_wp2_with fail
        refine HC.out.mono ?_
        rintro e w1 ⟨⟨ao1, cap1, rfl, hI1⟩, hs1⟩
        have h2 : w1.cell? ⟨w.heap.size, k, none⟩ = some (.slice none 0 0) := by rw [hs1.cell (a := ⟨w.heap.size, k, none⟩) hsz]; simpa using hr.cell hlt
        have h3 : w1.frozen? ⟨w.heap.size, k, none⟩ = false := by rw [hs1.frozen (a := ⟨w.heap.size, k, none⟩) hsz]; exact hr.frozen k
        clear HC h1
        go_wp2
        go_roundg (n - (k + 1))
        case measure => omega
        case rel =>
          refine ⟨k + 1, fun j => if j = k then .slice ao1 (L k) cap1 else V j, by omega, rfl, rfl, (hs.trans (since_le hs1 hs.size)).setCell (Nat.le_refl _) _, (((hr.of_block (hs1.block _ hsz)).set k _)).congr (fun j _ => ?_), fun u hu => ?_⟩
          · by_cases e : j = k
            · subst e; simp
            · simp only [e, if_false]; by_cases h : j < k
              · rw [if_pos h, if_pos (by omega)]
              · rw [if_neg h, if_neg (by omega)]
          · by_cases e : u = k
            · subst e; simp only [if_true]
              exact (hI1.low (by omega)).setCell (by show w.heap.size < _; omega) _
            · simp only [e, if_false]
              exact ((hV u (by omega)).since hs1).setCell (by show w.heap.size < _; omega) _
      · go_wp2
        go_ret
        have hkn : k = n := by omega
        subst hkn
        refine ⟨⟨_, _, rfl, ?_⟩, hs⟩
        have h' : ∀ u, u < k → ∃ x : Option Addr × Nat × Nat × Nat, V u = .slice x.1 (L u) x.2.1 ∧ ∀ j, j < L u → x.1 = some ⟨x.2.2.1, x.2.2.2, none⟩ ∧ wr.cell? ⟨x.2.2.1, x.2.2.2 + j, none⟩ = some (.int .i64 (Z u j)) := by
          intro u hu
          obtain ⟨ao, b, o, cap, hv, hj⟩ := hV u hu
          exact ⟨(ao, cap, b, o), hv, fun j h => ⟨(hj j h).1, (hj j h).2.2⟩⟩
        obtain ⟨f, hf⟩ := choose_lt h'
        refine ⟨_, w.heap.size, 0, k, fun u => (f u).1, fun u => (f u).2.1, fun u => (f u).2.2.1, fun u => (f u).2.2.2, rfl, fun u hu => ⟨rfl, ?_, (hf u hu).2⟩⟩
        rw [Nat.zero_add, hr.cell hu, if_pos hu, (hf u hu).1]
end Go.Proofs.Qxb6600028a
