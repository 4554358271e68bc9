import Derived.Test.Qxb6601152aBytes
namespace Go.Proofs.Qxb6601152a
open Go.RowKit Go.Deep

set_option maxHeartbeats 1000000 in
theorem zzB6 (n m : Nat) (X : Nat → Int) (M : Nat → ZM) (av mv : Value) (w : World) (hn : n ≤ 1024) (hm : m ≤ 4096)
    (hL : ∀ u, u < m → (M u).vl.size ≤ 9223372036854775807 ∧ (M u).pv.size ≤ 9223372036854775807)
    (hN : IntsI w 0 av n X) (hS : MsgsI w 0 mv m M) :
    Calls Try.prog 6 #[av, mv] w fun e w' => (∃ T : Nat, e = .returned (.int .i64 T)) ∧ w.Since w.heap.size w' := by
  obtain ⟨ao, b, o, cap, rfl, hc⟩ := hN
  obtain ⟨so, sb, s0, sc, rfl, hs⟩ := hS
  clear hc
  go_enter Try.func6, Try.ntmps6
  go_wp2
  go_loopg [5, 6] m (fun g t i wr => w.Since w.heap.size wr ∧ ∃ k T : Nat, k ≤ m ∧ g = m - k ∧ i = .int .i64 k ∧ t = .int .i64 T ∧ T ≤ 1048576)
  case atStart => exact ⟨.refl _ _, 0, 8 * n + 112 * m, Nat.zero_le _, rfl, rfl, by go_num, by omega⟩
  case round =>
    obtain ⟨hsi, k, T, hk, rfl, rfl, rfl, hT⟩ := hrel
    by_cases hlt : k < m
    · obtain ⟨rfl, _, hr⟩ := hs k hlt
      have hr' := rangeAt_block hr (hsi.block _ (rangeAt_lt hr))
      have r5 : wr.cell? ⟨sb, s0 + k * 11 + 5, none⟩ = some (.string (M k).vl) := hr' 5 _ rfl
      have r8 : wr.cell? ⟨sb, s0 + k * 11 + 8, none⟩ = some (.string (M k).pv) := hr' 8 _ rfl
      obtain ⟨hL1, hL2⟩ := hL k hlt
      clear hs hL hr hr'
      generalize (M k).vl = v1 at *
      generalize (M k).pv = v2 at *
      by_cases h4 : 1048576 < v1.size
      · go_wp2
        go_ret
        exact ⟨⟨1048577, rfl⟩, hsi⟩
      by_cases h6 : 1048576 < v2.size
      · go_wp2
        go_ret
        exact ⟨⟨1048577, rfl⟩, hsi⟩
      go_wp2_with fail
      go_quiet (fail)
      by_cases h7 : 1048576 < T + (v1.size + v2.size)
      · go_wp2
        go_ret
        exact ⟨⟨T + (v1.size + v2.size), by go_num⟩, since_drewN hsi _⟩
      go_wp2
      go_roundg (m - (k + 1))
      case measure => omega
      case rel => exact ⟨since_drewN hsi _, k + 1, T + (v1.size + v2.size), by omega, rfl, by go_num, by go_num, by omega⟩
    · go_wp2
      go_ret
      exact ⟨⟨T, rfl⟩, hsi⟩
end Go.Proofs.Qxb6601152a
