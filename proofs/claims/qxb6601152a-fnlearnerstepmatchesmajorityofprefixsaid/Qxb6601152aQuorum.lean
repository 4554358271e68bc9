import Derived.Test.Qxb6601152aReads
namespace Go.Proofs.Qxb6601152a
open Go.RowKit Go.Deep

/-- 'Reached$1'. -/
theorem reached1 (bx qb : Nat) (c g : Value) (k : Nat) (C : Nat → Int) (n : Nat) (X : Nat → Int) (w : World) (hk : k ≤ 1048576) (hn : n ≤ 1048576)
    (hb : w.cell? ⟨bx, 0, none⟩ = some (.pointer (some ⟨qb, 0, none⟩))) (hq : w.cell? ⟨qb, 1, none⟩ = some c) (hC : IntsI w 0 c k C) (hG : IntsI w 0 g n X) :
    Calls Try.prog 23 #[g, .pointer (some ⟨bx, 0, none⟩)] w fun e w' => e = .returned (.bool (decide (cnt n (fun i => has k C (X i)) < n / 2 + 1))) ∧ w' = w := by
  have h24 := qin qb c g k C n X w hk hn hq hC hG
  have h25 := majority n w hn
  have hle := cnt_le (fun i => has k C (X i)) n
  obtain ⟨ao, b, o, cap, rfl, _⟩ := hG
  generalize cnt n (fun i => has k C (X i)) = T at *
  go_enter Try.func23, Try.ntmps23
  go_wp2_with fail
  refine h24.mono ?_
  rintro e w1 ⟨rfl, rfl⟩
  go_wp2_with fail
  refine h25.mono ?_
  rintro e w1 ⟨rfl, rfl⟩
  clear h24 h25
  go_wp2
  go_ret
  refine ⟨?_, rfl⟩
  congr 2
  simp
  omega

theorem indexFunc (gb bx qb : Nat) (c g : Value) (k : Nat) (C : Nat → Int) (n : Nat) (X : Nat → Int) (w : World) (hk : k ≤ 1048576) (hn : n ≤ 1048576)
    (hg : w.cell? ⟨gb, 0, none⟩ = some g)
    (hb : w.cell? ⟨bx, 0, none⟩ = some (.pointer (some ⟨qb, 0, none⟩))) (hq : w.cell? ⟨qb, 1, none⟩ = some c) (hC : IntsI w 0 c k C) (hG : IntsI w 0 g n X) :
    Calls Try.prog 26 #[.slice (some ⟨gb, 0, none⟩) 1 1, .func (.func 23) #[] #[.pointer (some ⟨bx, 0, none⟩)]] w fun e w' =>
      (∃ z : Int, e = .returned (.int .i64 z) ∧ (0 ≤ z ↔ cnt n (fun i => has k C (X i)) < n / 2 + 1)) ∧ w' = w := by
  have h23 := reached1 bx qb c g k C n X w hk hn hb hq hC hG
  obtain ⟨ao, b, o, cap, rfl, _⟩ := hG
  generalize cnt n (fun i => has k C (X i)) = T at *
  go_enter Try.func26, Try.ntmps26
  go_wp2
  go_loopg [8] 1 (fun g i wr => w = wr ∧ ((g = 1 ∧ i = .int .i64 0) ∨ (g = 0 ∧ i = .int .i64 1 ∧ ¬ T < n / 2 + 1)))
  case atStart => exact ⟨rfl, .inl ⟨rfl, rfl⟩⟩
  case round =>
    obtain ⟨rfl, ⟨rfl, rfl⟩ | ⟨rfl, rfl, hno⟩⟩ := hrel
    · go_wp2_with fail
      refine h23.mono ?_
      rintro e w1 ⟨rfl, rfl⟩
      clear h23
      by_cases ht : T < n / 2 + 1
      · have hd : decide (T < n / 2 + 1) = true := by simp [ht]
        rw [hd]
        go_wp2
        go_ret
        exact ⟨⟨_, rfl, by simp [ht]⟩, rfl⟩
      · have hd : decide (T < n / 2 + 1) = false := by simp [ht]
        rw [hd]
        go_wp2
        go_roundg 0
        case measure => omega
        case rel => exact ⟨rfl, .inr ⟨rfl, by go_num, ht⟩⟩
    · go_wp2
      go_ret
      exact ⟨⟨_, rfl, by simp [hno]⟩, rfl⟩

theorem containsFunc (gb bx qb : Nat) (c g : Value) (k : Nat) (C : Nat → Int) (n : Nat) (X : Nat → Int) (w : World) (hk : k ≤ 1048576) (hn : n ≤ 1048576)
    (hg : w.cell? ⟨gb, 0, none⟩ = some g)
    (hb : w.cell? ⟨bx, 0, none⟩ = some (.pointer (some ⟨qb, 0, none⟩))) (hq : w.cell? ⟨qb, 1, none⟩ = some c) (hC : IntsI w 0 c k C) (hG : IntsI w 0 g n X) :
    Calls Try.prog 22 #[.slice (some ⟨gb, 0, none⟩) 1 1, .func (.func 23) #[] #[.pointer (some ⟨bx, 0, none⟩)]] w fun e w' =>
      e = .returned (.bool (decide (cnt n (fun i => has k C (X i)) < n / 2 + 1))) ∧ w' = w := by
  have h26 := indexFunc gb bx qb c g k C n X w hk hn hg hb hq hC hG
  go_enter Try.func22, Try.ntmps22
  go_wp2_with fail
  refine h26.mono ?_
  rintro e w1 ⟨⟨z, rfl, hz⟩, rfl⟩
  clear h26
  go_wp2
  go_ret
  refine ⟨?_, rfl⟩
  congr 2

/-- '(*Quorum).Reached': a block is laid for the captured pointer. -/
theorem reached (gb qb : Nat) (c g : Value) (k : Nat) (C : Nat → Int) (n : Nat) (X : Nat → Int) (w : World) (hk : k ≤ 1048576) (hn : n ≤ 1048576)
    (hg : w.cell? ⟨gb, 0, none⟩ = some g) (hq0 : w.cell? ⟨qb, 0, none⟩ = some (.slice (some ⟨gb, 0, none⟩) 1 1))
    (hq : w.cell? ⟨qb, 1, none⟩ = some c) (hC : IntsI w 0 c k C) (hG : IntsI w 0 g n X) :
    Calls Try.prog 19 #[.pointer (some ⟨qb, 0, none⟩)] w fun e w' =>
      e = .returned (.bool (decide (n < 2 * cnt n (fun i => has k C (X i))))) ∧ w.Since w.heap.size w' := by
  have hs : w.Since w.heap.size (w.alloc (.cells #[.pointer (some ⟨qb, 0, none⟩)] 56)) := (World.Since.refl _ _).alloc (Nat.le_refl _) _
  have h22 := containsFunc gb w.heap.size qb c g k C n X (w.alloc (.cells #[.pointer (some ⟨qb, 0, none⟩)] 56)) hk hn
    (by rw [hs.cell (a := ⟨gb, 0, none⟩) (World.block_lt_of_cell? _ _ hg)]; exact hg) (by simp)
    (by rw [hs.cell (a := ⟨qb, 1, none⟩) (World.block_lt_of_cell? _ _ hq)]; exact hq) (hC.since hs) (hG.since hs)
  have hlt0 := World.block_lt_of_cell? _ _ hq0
  go_enter Try.func19, Try.ntmps19
  go_wp2_with fail
  refine h22.mono ?_
  rintro e w1 ⟨rfl, rfl⟩
  clear h22
  go_wp2
  go_ret
  refine ⟨?_, hs⟩
  congr 2
  generalize cnt n (fun i => has k C (X i)) = T at *
  by_cases h : T < n / 2 + 1 <;> simp [h] <;> omega
end Go.Proofs.Qxb6601152a
