import Derived.Test.Qxb6601152aBase
namespace Go.Proofs.Qxb6601152a
open Go.RowKit Go.Deep

/-- A returned Bool. -/
def RetB (e : Ending) : Prop := ∃ b, e = .returned (.bool b)

set_option maxHeartbeats 1000000 in
theorem zzB5 (n m : Nat) (X : Nat → Int) (M : Nat → ZM) (av mv : Value) (w : World) (hn : n ≤ 9223372036854775807) (hm : m ≤ 9223372036854775807)
    (hL : ∀ u, u < m → (M u).vl.size ≤ 9223372036854775807 ∧ (M u).pv.size ≤ 9223372036854775807)
    (hN : IntsI w 0 av n X) (hS : MsgsI w 0 mv m M) :
    Calls Try.prog 5 #[av, mv] w fun e w' => RetB e ∧ w' = w := by
  obtain ⟨ao, b, o, cap, rfl, hc⟩ := hN
  obtain ⟨so, sb, s0, sc, rfl, hs⟩ := hS
  clear hc
  by_cases h1 : 1048576 < n
  · go_enter Try.func5, Try.ntmps5
    go_wp2
    go_ret
    exact ⟨⟨_, rfl⟩, rfl⟩
  by_cases h2 : 1048576 < m
  · go_enter Try.func5, Try.ntmps5
    go_wp2
    go_ret
    exact ⟨⟨_, rfl⟩, rfl⟩
  by_cases h3 : 1048576 < n + m
  · go_enter Try.func5, Try.ntmps5
    go_wp2
    go_ret
    exact ⟨⟨_, rfl⟩, rfl⟩
  go_enter Try.func5, Try.ntmps5
  go_wp2
  go_loopg [5, 6] m (fun g t i wr => w = wr ∧ ∃ k T : Nat, k ≤ m ∧ g = m - k ∧ i = .int .i64 k ∧ t = .int .i64 T ∧ T ≤ 1048576)
  case atStart => exact ⟨rfl, 0, n + m, Nat.zero_le _, rfl, rfl, by go_num, by omega⟩
  case round =>
    obtain ⟨rfl, k, T, hk, rfl, rfl, rfl, hT⟩ := hrel
    by_cases hlt : k < m
    · obtain ⟨rfl, _, hr⟩ := hs k hlt
      have r5 : w.cell? ⟨sb, s0 + k * 11 + 5, none⟩ = some (.string (M k).vl) := hr 5 _ rfl
      have r8 : w.cell? ⟨sb, s0 + k * 11 + 8, none⟩ = some (.string (M k).pv) := hr 8 _ rfl
      obtain ⟨hL1, hL2⟩ := hL k hlt
      clear hs hL hr
      generalize (M k).vl = v1 at *
      generalize (M k).pv = v2 at *
      by_cases h4 : 1048576 < v1.size
      · go_wp2
        go_ret
        exact ⟨⟨_, rfl⟩, rfl⟩
      by_cases h5 : 1048576 < T + v1.size
      · go_wp2
        go_ret
        exact ⟨⟨_, rfl⟩, rfl⟩
      by_cases h6 : 1048576 < v2.size
      · go_wp2
        go_ret
        exact ⟨⟨_, rfl⟩, rfl⟩
      by_cases h7 : 1048576 < T + v1.size + v2.size
      · go_wp2
        go_ret
        exact ⟨⟨_, rfl⟩, rfl⟩
      go_wp2
      go_roundg (m - (k + 1))
      case measure => omega
      case rel => exact ⟨rfl, k + 1, T + v1.size + v2.size, by omega, rfl, by go_num, by go_num, by omega⟩
    · go_wp2
      go_ret
      exact ⟨⟨_, rfl⟩, rfl⟩
end Go.Proofs.Qxb6601152a
