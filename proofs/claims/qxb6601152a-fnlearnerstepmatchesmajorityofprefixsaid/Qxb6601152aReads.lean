import Derived.Test.Qxb6601152aBase
namespace Go.Proofs.Qxb6601152a
open Go.RowKit Go.Deep

theorem index (v : Value) (n : Nat) (X : Nat → Int) (a : Int) (w : World) (hn : n ≤ 1048576) (hN : IntsI w 0 v n X) :
    Calls Try.prog 20 #[v, .int .u64 a] w fun e w' => (∃ z : Int, e = .returned (.int .i64 z) ∧ (0 ≤ z ↔ has n X a = true)) ∧ w' = w := by
  obtain ⟨ao, b, o, cap, rfl, hc⟩ := hN
  go_enter Try.func20, Try.ntmps20
  go_wp2
  go_loopg [8] n (fun g i wr => w = wr ∧ ∃ k : Nat, k ≤ n ∧ g = n - k ∧ i = .int .i64 k ∧ has k X a = false)
  case atStart => exact ⟨rfl, 0, Nat.zero_le _, rfl, rfl, rfl⟩
  case round =>
    obtain ⟨rfl, k, hk, rfl, rfl, hno⟩ := hrel
    by_cases hlt : k < n
    · obtain ⟨rfl, _, hr⟩ := hc k hlt
      clear hc
      by_cases he : a = X k
      · go_wp2
        go_ret
        refine ⟨⟨_, rfl, ?_⟩, rfl⟩
        have : has n X a = true := (has_iff X a n).2 ⟨k, hlt, he.symm⟩
        simp [this]
      · have hb : (a == X k) = false := by simpa using he
        go_wp2
        go_roundg (n - (k + 1))
        case measure => omega
        case rel => exact ⟨rfl, k + 1, by omega, rfl, by go_num, by rw [has, hno]; simpa using fun h => he h.symm⟩
    · go_wp2
      go_ret
      obtain rfl : k = n := by omega
      exact ⟨⟨_, rfl, by simp [hno]⟩, rfl⟩

theorem contains (v : Value) (n : Nat) (X : Nat → Int) (a : Int) (w : World) (hn : n ≤ 1048576) (hN : IntsI w 0 v n X) :
    Calls Try.prog 16 #[v, .int .u64 a] w fun e w' => e = .returned (.bool (has n X a)) ∧ w' = w := by
  have hcall := index v n X a w hn hN
  go_enter Try.func16, Try.ntmps16
  go_wp2_with fail
  refine hcall.mono ?_
  rintro e w1 ⟨⟨z, rfl, hz⟩, rfl⟩
  clear hcall
  go_wp2
  go_ret
  refine ⟨?_, rfl⟩
  cases h : has n X a <;> simp_all

theorem zzHas (v : Value) (n : Nat) (X : Nat → Int) (a : Int) (w : World) (hn : n ≤ 1048576) (hN : IntsI w 0 v n X) :
    Calls Try.prog 10 #[v, .int .u64 a] w fun e w' => e = .returned (.bool (has n X a)) ∧ w' = w := by
  obtain ⟨ao, b, o, cap, rfl, hc⟩ := hN
  go_enter Try.func10, Try.ntmps10
  go_wp2
  go_loopg [5] n (fun g i wr => w = wr ∧ ∃ k : Nat, k ≤ n ∧ g = n - k ∧ i = .int .i64 k ∧ has k X a = false)
  case atStart => exact ⟨rfl, 0, Nat.zero_le _, rfl, rfl, rfl⟩
  case round =>
    obtain ⟨rfl, k, hk, rfl, rfl, hno⟩ := hrel
    by_cases hlt : k < n
    · obtain ⟨rfl, _, hr⟩ := hc k hlt
      clear hc
      by_cases he : X k = a
      · go_wp2
        go_ret
        have : has n X a = true := (has_iff X a n).2 ⟨k, hlt, he⟩
        exact ⟨by rw [this]; rfl, rfl⟩
      · have hb : (X k == a) = false := by simpa using he
        go_wp2
        go_roundg (n - (k + 1))
        case measure => omega
        case rel => exact ⟨rfl, k + 1, by omega, rfl, by go_num, by rw [has, hno, hb]; rfl⟩
    · go_wp2
      go_ret
      obtain rfl : k = n := by omega
      exact ⟨by rw [hno]; rfl, rfl⟩

/-- '(*Quorum).Has': q's two cells lie at block qb. -/
theorem qhas (qb : Nat) (c : Value) (n : Nat) (X : Nat → Int) (a : Int) (w : World) (hn : n ≤ 1048576) (hq : w.cell? ⟨qb, 1, none⟩ = some c) (hN : IntsI w 0 c n X) :
    Calls Try.prog 21 #[.pointer (some ⟨qb, 0, none⟩), .int .u64 a] w fun e w' => e = .returned (.bool (has n X a)) ∧ w' = w := by
  have hcall := contains c n X a w hn hN
  obtain ⟨ao, b, o, cap, rfl, _⟩ := hN
  go_enter Try.func21, Try.ntmps21
  go_wp2_with fail
  refine hcall.mono ?_
  rintro e w1 ⟨rfl, rfl⟩
  clear hcall
  go_wp2
  go_ret
  exact ⟨rfl, rfl⟩

/-- '(*Quorum).in': how many places of g have been counted. -/
theorem qin (qb : Nat) (c g : Value) (k : Nat) (C : Nat → Int) (n : Nat) (X : Nat → Int) (w : World) (hk : k ≤ 1048576) (hn : n ≤ 1048576) (hq : w.cell? ⟨qb, 1, none⟩ = some c) (hC : IntsI w 0 c k C) (hG : IntsI w 0 g n X) :
    Calls Try.prog 24 #[.pointer (some ⟨qb, 0, none⟩), g] w fun e w' => e = .returned (.int .i64 (cnt n fun i => has k C (X i))) ∧ w' = w := by
  obtain ⟨ao, b, o, cap, rfl, hc⟩ := hG
  have HQ : Hid (∀ a, Calls Try.prog 21 #[.pointer (some ⟨qb, 0, none⟩), .int .u64 a] w fun e w' => e = .returned (.bool (has k C a)) ∧ w' = w) := fun a => qhas qb c k C a w hk hq hC
  clear hC hq
  go_enter Try.func24, Try.ntmps24
  go_wp2
  go_loopg [5, 10] n (fun g t i wr => w = wr ∧ ∃ j : Nat, j ≤ n ∧ g = n - j ∧ i = .int .i64 j ∧ t = .int .i64 (cnt j fun i => has k C (X i)))
  case atStart => exact ⟨rfl, 0, Nat.zero_le _, rfl, rfl, rfl⟩
  case round =>
    obtain ⟨rfl, j, hj, rfl, rfl, rfl⟩ := hrel
    have hle := cnt_le (fun i => has k C (X i)) j
    by_cases hlt : j < n
    · obtain ⟨rfl, _, hr⟩ := hc j hlt
      clear hc
      go_wp2_with fail
      refine (HQ.out (X j)).mono ?_
      rintro e w1 ⟨rfl, rfl⟩
      clear HQ
      cases hh : has k C (X j)
      · go_wp2
        go_roundg (n - (j + 1))
        case measure => omega
        case rel => exact ⟨rfl, j + 1, by omega, rfl, by go_num, by rw [cnt, hh]; simp⟩
      · go_wp2
        go_roundg (n - (j + 1))
        case measure => omega
        case rel => exact ⟨rfl, j + 1, by omega, rfl, by go_num, by rw [cnt, hh]; simp⟩
    · go_wp2
      go_ret
      obtain rfl : j = n := by omega
      exact ⟨rfl, rfl⟩

theorem majority (n : Nat) (w : World) (hn : n ≤ 1048576) :
    Calls Try.prog 25 #[.int .i64 n] w fun e w' => e = .returned (.int .i64 ((n / 2 + 1 : Nat) : Int)) ∧ w' = w := by
  go_enter Try.func25, Try.ntmps25
  go_wp2
  go_ret
  refine ⟨?_, rfl⟩
  congr 2
end Go.Proofs.Qxb6601152a
