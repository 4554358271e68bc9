import Derived.Test.Qxb6600028aBase
namespace Go.Proofs.Qxb6600028a
open Go.RowKit Go.Deep
set_option maxHeartbeats 400000 in
theorem zzB18 (n m : Nat) (X : Nat → Int) (L : Nat → Nat) (Z : Nat → Nat → Int) (nv sv : Value) (w : World) (hn : n ≤ 9223372036854775807) (hm : m ≤ 9223372036854775807) (hL : ∀ u, u < m → L u ≤ 9223372036854775807)
    (hN : IntsI w 0 nv n X) (hS : RowsI w sv m L Z) :
    Calls Try.prog 18 #[nv, sv] w fun e w' => RetB True e ∧ w' = w := by
  obtain ⟨ao, b, o, cap, rfl, hc⟩ := hN
  obtain ⟨so, sb, s0, sc, R, C, rb, ro, rfl, hs⟩ := hS
  clear hc
  by_cases h1 : 1048576 < n
  · go_enter Try.func18, Try.ntmps18
    go_wp2
    go_ret
    exact ⟨⟨_, rfl, fun _ => trivial⟩, rfl⟩
  by_cases h2 : 1048576 < m
  · go_enter Try.func18, Try.ntmps18
    go_wp2
    go_ret
    exact ⟨⟨_, rfl, fun _ => trivial⟩, rfl⟩
  by_cases h3 : 1048576 < n + m
  · go_enter Try.func18, Try.ntmps18
    go_wp2
    go_ret
    exact ⟨⟨_, rfl, fun _ => trivial⟩, rfl⟩
  go_enter Try.func18, Try.ntmps18
  go_wp2
  go_loopg [5, 6] m (fun g t i wr => w = wr ∧ ∃ k T : Nat, k ≤ m ∧ g = m - k ∧ i = .int .i64 k ∧ t = .int .i64 T ∧ T ≤ 1048576)
  case atStart => exact ⟨rfl, 0, n + m, Nat.zero_le _, rfl, rfl, by go_num, by omega⟩
  case round =>
    obtain ⟨rfl, k, T, hk, rfl, rfl, rfl, hT⟩ := hrel
    by_cases hlt : k < m
    · obtain ⟨rfl, hr, _⟩ := hs k hlt
      have hLk := hL k hlt
      clear hs hL
      by_cases h4 : 1048576 < L k
      · go_wp2
        go_ret
        exact ⟨⟨_, rfl, fun _ => trivial⟩, rfl⟩
      by_cases h5 : 1048576 < T + L k
      · go_wp2
        go_ret
        exact ⟨⟨_, rfl, fun _ => trivial⟩, rfl⟩
      go_wp2
      go_roundg (m - (k + 1))
      case measure => omega
      case rel => exact ⟨rfl, k + 1, T + L k, by omega, rfl, by go_num, by go_num, by omega⟩
    · go_wp2
      go_ret
      exact ⟨⟨_, rfl, fun _ => trivial⟩, rfl⟩

set_option maxHeartbeats 400000 in
theorem zzB9 (n m : Nat) (X : Nat → Int) (L : Nat → Nat) (Z : Nat → Nat → Int) (nv sv : Value) (w : World) (hn : n ≤ 9223372036854775807) (hm : m ≤ 9223372036854775807) (hL : ∀ u, u < m → L u ≤ 9223372036854775807)
    (hN : IntsI w 0 nv n X) (hS : RowsI w sv m L Z) :
    Calls Try.prog 9 #[nv, sv] w fun e w' => RetB True e ∧ w' = w := by
  obtain ⟨ao, b, o, cap, rfl, hc⟩ := hN
  obtain ⟨so, sb, s0, sc, R, C, rb, ro, rfl, hs⟩ := hS
  clear hc
  by_cases h1 : 1048576 < n
  · go_enter Try.func9, Try.ntmps9
    go_wp2
    go_ret
    exact ⟨⟨_, rfl, fun _ => trivial⟩, rfl⟩
  by_cases h2 : 1048576 < m
  · go_enter Try.func9, Try.ntmps9
    go_wp2
    go_ret
    exact ⟨⟨_, rfl, fun _ => trivial⟩, rfl⟩
  by_cases h3 : 1048576 < n + m
  · go_enter Try.func9, Try.ntmps9
    go_wp2
    go_ret
    exact ⟨⟨_, rfl, fun _ => trivial⟩, rfl⟩
  go_enter Try.func9, Try.ntmps9
  go_wp2
  go_loopg [5, 6] m (fun g t i wr => w = wr ∧ ∃ k T : Nat, k ≤ m ∧ g = m - k ∧ i = .int .i64 k ∧ t = .int .i64 T ∧ T ≤ 1048576)
  case atStart => exact ⟨rfl, 0, n + m, Nat.zero_le _, rfl, rfl, by go_num, by omega⟩
  case round =>
    obtain ⟨rfl, k, T, hk, rfl, rfl, rfl, hT⟩ := hrel
    by_cases hlt : k < m
    · obtain ⟨rfl, hr, _⟩ := hs k hlt
      have hLk := hL k hlt
      clear hs hL
      by_cases h4 : 1048576 < L k
      · go_wp2
        go_ret
        exact ⟨⟨_, rfl, fun _ => trivial⟩, rfl⟩
      by_cases h5 : 1048576 < T + L k
      · go_wp2
        go_ret
        exact ⟨⟨_, rfl, fun _ => trivial⟩, rfl⟩
      go_wp2
      go_roundg (m - (k + 1))
      case measure => omega
      case rel => exact ⟨rfl, k + 1, T + L k, by omega, rfl, by go_num, by go_num, by omega⟩
    · go_wp2
      go_ret
      exact ⟨⟨_, rfl, fun _ => trivial⟩, rfl⟩

set_option maxHeartbeats 400000 in
theorem zzB21 (n m : Nat) (X : Nat → Int) (L : Nat → Nat) (Z : Nat → Nat → Int) (nv sv : Value) (w : World) (hn : n ≤ 9223372036854775807) (hm : m ≤ 9223372036854775807) (hL : ∀ u, u < m → L u ≤ 9223372036854775807)
    (hN : IntsI w 0 nv n X) (hS : RowsI w sv m L Z) :
    Calls Try.prog 21 #[nv, sv] w fun e w' => RetB True e ∧ w' = w := by
  obtain ⟨ao, b, o, cap, rfl, hc⟩ := hN
  obtain ⟨so, sb, s0, sc, R, C, rb, ro, rfl, hs⟩ := hS
  clear hc
  by_cases h1 : 1048576 < n
  · go_enter Try.func21, Try.ntmps21
    go_wp2
    go_ret
    exact ⟨⟨_, rfl, fun _ => trivial⟩, rfl⟩
  by_cases h2 : 1048576 < m
  · go_enter Try.func21, Try.ntmps21
    go_wp2
    go_ret
    exact ⟨⟨_, rfl, fun _ => trivial⟩, rfl⟩
  by_cases h3 : 1048576 < n + m
  · go_enter Try.func21, Try.ntmps21
    go_wp2
    go_ret
    exact ⟨⟨_, rfl, fun _ => trivial⟩, rfl⟩
  go_enter Try.func21, Try.ntmps21
  go_wp2
  go_loopg [5, 6] m (fun g t i wr => w = wr ∧ ∃ k T : Nat, k ≤ m ∧ g = m - k ∧ i = .int .i64 k ∧ t = .int .i64 T ∧ T ≤ 1048576)
  case atStart => exact ⟨rfl, 0, n + m, Nat.zero_le _, rfl, rfl, by go_num, by omega⟩
  case round =>
    obtain ⟨rfl, k, T, hk, rfl, rfl, rfl, hT⟩ := hrel
    by_cases hlt : k < m
    · obtain ⟨rfl, hr, _⟩ := hs k hlt
      have hLk := hL k hlt
      clear hs hL
      by_cases h4 : 1048576 < L k
      · go_wp2
        go_ret
        exact ⟨⟨_, rfl, fun _ => trivial⟩, rfl⟩
      by_cases h5 : 1048576 < T + L k
      · go_wp2
        go_ret
        exact ⟨⟨_, rfl, fun _ => trivial⟩, rfl⟩
      go_wp2
      go_roundg (m - (k + 1))
      case measure => omega
      case rel => exact ⟨rfl, k + 1, T + L k, by omega, rfl, by go_num, by go_num, by omega⟩
    · go_wp2
      go_ret
      exact ⟨⟨_, rfl, fun _ => trivial⟩, rfl⟩

set_option maxHeartbeats 400000 in
theorem zzB25 (n m : Nat) (X : Nat → Int) (L : Nat → Nat) (Z : Nat → Nat → Int) (nv sv : Value) (w : World) (hn : n ≤ 9223372036854775807) (hm : m ≤ 9223372036854775807) (hL : ∀ u, u < m → L u ≤ 9223372036854775807)
    (hN : IntsI w 0 nv n X) (hS : RowsI w sv m L Z) :
    Calls Try.prog 25 #[nv, sv] w fun e w' => RetB True e ∧ w' = w := by
  obtain ⟨ao, b, o, cap, rfl, hc⟩ := hN
  obtain ⟨so, sb, s0, sc, R, C, rb, ro, rfl, hs⟩ := hS
  clear hc
  by_cases h1 : 1048576 < n
  · go_enter Try.func25, Try.ntmps25
    go_wp2
    go_ret
    exact ⟨⟨_, rfl, fun _ => trivial⟩, rfl⟩
  by_cases h2 : 1048576 < m
  · go_enter Try.func25, Try.ntmps25
    go_wp2
    go_ret
    exact ⟨⟨_, rfl, fun _ => trivial⟩, rfl⟩
  by_cases h3 : 1048576 < n + m
  · go_enter Try.func25, Try.ntmps25
    go_wp2
    go_ret
    exact ⟨⟨_, rfl, fun _ => trivial⟩, rfl⟩
  go_enter Try.func25, Try.ntmps25
  go_wp2
  go_loopg [5, 6] m (fun g t i wr => w = wr ∧ ∃ k T : Nat, k ≤ m ∧ g = m - k ∧ i = .int .i64 k ∧ t = .int .i64 T ∧ T ≤ 1048576)
  case atStart => exact ⟨rfl, 0, n + m, Nat.zero_le _, rfl, rfl, by go_num, by omega⟩
  case round =>
    obtain ⟨rfl, k, T, hk, rfl, rfl, rfl, hT⟩ := hrel
    by_cases hlt : k < m
    · obtain ⟨rfl, hr, _⟩ := hs k hlt
      have hLk := hL k hlt
      clear hs hL
      by_cases h4 : 1048576 < L k
      · go_wp2
        go_ret
        exact ⟨⟨_, rfl, fun _ => trivial⟩, rfl⟩
      by_cases h5 : 1048576 < T + L k
      · go_wp2
        go_ret
        exact ⟨⟨_, rfl, fun _ => trivial⟩, rfl⟩
      go_wp2
      go_roundg (m - (k + 1))
      case measure => omega
      case rel => exact ⟨rfl, k + 1, T + L k, by omega, rfl, by go_num, by go_num, by omega⟩
    · go_wp2
      go_ret
      exact ⟨⟨_, rfl, fun _ => trivial⟩, rfl⟩

set_option maxHeartbeats 400000 in
theorem zzB27 (n m : Nat) (X : Nat → Int) (L : Nat → Nat) (Z : Nat → Nat → Int) (nv sv : Value) (w : World) (hn : n ≤ 9223372036854775807) (hm : m ≤ 9223372036854775807) (hL : ∀ u, u < m → L u ≤ 9223372036854775807)
    (hN : IntsI w 0 nv n X) (hS : RowsI w sv m L Z) :
    Calls Try.prog 27 #[nv, sv] w fun e w' => RetB True e ∧ w' = w := by
  obtain ⟨ao, b, o, cap, rfl, hc⟩ := hN
  obtain ⟨so, sb, s0, sc, R, C, rb, ro, rfl, hs⟩ := hS
  clear hc
  by_cases h1 : 1048576 < n
  · go_enter Try.func27, Try.ntmps27
    go_wp2
    go_ret
    exact ⟨⟨_, rfl, fun _ => trivial⟩, rfl⟩
  by_cases h2 : 1048576 < m
  · go_enter Try.func27, Try.ntmps27
    go_wp2
    go_ret
    exact ⟨⟨_, rfl, fun _ => trivial⟩, rfl⟩
  by_cases h3 : 1048576 < n + m
  · go_enter Try.func27, Try.ntmps27
    go_wp2
    go_ret
    exact ⟨⟨_, rfl, fun _ => trivial⟩, rfl⟩
  go_enter Try.func27, Try.ntmps27
  go_wp2
  go_loopg [5, 6] m (fun g t i wr => w = wr ∧ ∃ k T : Nat, k ≤ m ∧ g = m - k ∧ i = .int .i64 k ∧ t = .int .i64 T ∧ T ≤ 1048576)
  case atStart => exact ⟨rfl, 0, n + m, Nat.zero_le _, rfl, rfl, by go_num, by omega⟩
  case round =>
    obtain ⟨rfl, k, T, hk, rfl, rfl, rfl, hT⟩ := hrel
    by_cases hlt : k < m
    · obtain ⟨rfl, hr, _⟩ := hs k hlt
      have hLk := hL k hlt
      clear hs hL
      by_cases h4 : 1048576 < L k
      · go_wp2
        go_ret
        exact ⟨⟨_, rfl, fun _ => trivial⟩, rfl⟩
      by_cases h5 : 1048576 < T + L k
      · go_wp2
        go_ret
        exact ⟨⟨_, rfl, fun _ => trivial⟩, rfl⟩
      go_wp2
      go_roundg (m - (k + 1))
      case measure => omega
      case rel => exact ⟨rfl, k + 1, T + L k, by omega, rfl, by go_num, by go_num, by omega⟩
    · go_wp2
      go_ret
      exact ⟨⟨_, rfl, fun _ => trivial⟩, rfl⟩

set_option maxHeartbeats 400000 in
theorem bytesWithin (n m : Nat) (X : Nat → Int) (L : Nat → Nat) (Z : Nat → Nat → Int) (nv sv : Value) (w : World) (hn : n ≤ 9223372036854775807) (hm : m ≤ 9223372036854775807) (hL : ∀ u, u < m → L u ≤ 9223372036854775807)
    (hN : IntsI w 0 nv n X) (hS : RowsI w sv m L Z) :
    Calls Try.prog 10 #[nv, sv, .int .i64 1048576] w fun e w' => RetB (8 * n + 24 * m + 8 * sumTo L m ≤ 1048576) e ∧ w' = w := by
  obtain ⟨ao, b, o, cap, rfl, hc⟩ := hN
  obtain ⟨so, sb, s0, sc, R, C, rb, ro, rfl, hs⟩ := hS
  clear hc
  by_cases h1 : 131072 < n
  · go_enter Try.func10, Try.ntmps10
    go_wp2
    go_ret
    exact ⟨RetB.no, rfl⟩
  by_cases h2 : 1048576 < 8 * n + 24 * m
  · go_enter Try.func10, Try.ntmps10
    go_wp2
    go_ret
    exact ⟨RetB.no, rfl⟩
  go_enter Try.func10, Try.ntmps10
  go_wp2
  go_loopg [7, 8] m (fun g t i wr => w = wr ∧ ∃ k T : Nat, k ≤ m ∧ g = m - k ∧ i = .int .i64 k ∧ t = .int .i64 T ∧ T ≤ 1048576 ∧ Hid (T = 8 * n + 24 * m + 8 * sumTo L k))
  case atStart => exact ⟨rfl, 0, 8 * n + 24 * m, Nat.zero_le _, rfl, rfl, by go_num, by omega, rfl⟩
  case round =>
    obtain ⟨rfl, k, T, hk, rfl, rfl, rfl, hT, hH⟩ := hrel
    by_cases hlt : k < m
    · obtain ⟨rfl, hr, _⟩ := hs k hlt
      have hLk := hL k hlt
      clear hs hL
      by_cases h4 : 1048576 < T + 8 * L k
      · go_wp2
        go_ret
        exact ⟨RetB.no, rfl⟩
      go_wp2
      go_roundg (m - (k + 1))
      case measure => omega
      case rel => exact ⟨rfl, k + 1, T + 8 * L k, by omega, rfl, by go_num, by go_num, by omega, by have := hH.out; unfold Hid; simp only [sumTo]; omega⟩
    · go_wp2
      go_ret
      refine ⟨RetB.yes ?_, rfl⟩
      have := hH.out
      obtain rfl : k = m := by omega
      omega

set_option maxHeartbeats 400000 in
theorem arcCount (m : Nat) (L : Nat → Nat) (Z : Nat → Nat → Int) (sv : Value) (w : World) (hm : m ≤ 1048576) (hsum : ∀ k, k ≤ m → sumTo L k ≤ 1048576)
    (hS : RowsI w sv m L Z) :
    Calls Try.prog 12 #[sv] w fun e w' => e = .returned (.int .i64 (sumTo L m)) ∧ w' = w := by
  obtain ⟨so, sb, s0, sc, R, C, rb, ro, rfl, hs⟩ := hS
  go_enter Try.func12, Try.ntmps12
  go_wp2
  go_loopg [3, 4] m (fun g t i wr => w = wr ∧ ∃ k : Nat, k ≤ m ∧ g = m - k ∧ i = .int .i64 k ∧ t = .int .i64 (sumTo L k))
  case atStart => exact ⟨rfl, 0, Nat.zero_le _, rfl, rfl, rfl⟩
  case round =>
    obtain ⟨rfl, k, hk, rfl, rfl, rfl⟩ := hrel
    have h1 := hsum k hk
    by_cases hlt : k < m
    · obtain ⟨rfl, hr, _⟩ := hs k hlt
      have h2 := hsum (k + 1) hlt
      have h3 : sumTo L k + L k ≤ 1048576 := h2
      clear hs hsum h2
      go_wp2
      go_roundg (m - (k + 1))
      case measure => omega
      case rel => exact ⟨rfl, k + 1, by omega, rfl, by go_num, by simp only [sumTo]; go_num⟩
    · clear hsum hs
      go_wp2
      go_ret
      obtain rfl : k = m := by omega
      exact ⟨rfl, rfl⟩

/-- What zzValidGraph looks for. -/
structure VG (n m : Nat) (X : Nat → Int) (L : Nat → Nat) (Z : Nat → Nat → Int) : Prop where
  len : m = n
  asc : ∀ i, i + 1 < n → X i < X (i + 1)
  rng : ∀ u, u < n → ∀ j, j < L u → 0 ≤ Z u j ∧ Z u j < n ∧ Z u j ≠ u
  row : ∀ u, u < n → ∀ j, j + 1 < L u → Z u j < Z u (j + 1)

set_option maxHeartbeats 1600000 in
theorem validGraph (n m : Nat) (X : Nat → Int) (L : Nat → Nat) (Z : Nat → Nat → Int) (nv sv : Value) (w : World) (hn : n ≤ 1048576) (hm : m ≤ 1048576) (hL : ∀ u, u < m → L u ≤ 1048576)
    (hN : IntsI w 0 nv n X) (hS : RowsI w sv m L Z) :
    Calls Try.prog 11 #[nv, sv] w fun e w' => RetB (VG n m X L Z) e ∧ w.Since w.heap.size w' := by
  obtain ⟨ao, b, o, cap, rfl, hc⟩ := hN
  obtain ⟨so, sb, s0, sc, R, C, rb, ro, rfl, hs⟩ := hS
  by_cases hmn : m = n
  case neg =>
    have hne : ((m : Int) != (n : Int)) = true := by simp; omega
    go_enter Try.func11, Try.ntmps11
    go_wp2
    go_ret
    exact ⟨RetB.no, World.Since.refl _ _⟩
  subst hmn
  have hne : ((m : Int) != (m : Int)) = false := by simp
  go_enter Try.func11, Try.ntmps11
  go_wp2
  go_loopg [6] (m - 1) (fun g i wr => ∃ k : Nat, 1 ≤ k ∧ g = m - k ∧ i = .int .i64 k ∧ Hid (∀ i, i + 1 < k → i + 1 < m → X i < X (i + 1)) ∧ w.Since w.heap.size wr)
  case atStart => exact ⟨1, by omega, rfl, rfl, fun i h => by omega, World.Since.refl _ _⟩
  case round =>
    obtain ⟨k, hk, rfl, rfl, hH, hsi⟩ := hrel
    by_cases hlt : k < m
    · obtain ⟨rfl, _, h0⟩ := hc k hlt
      obtain ⟨_, _, h1⟩ := hc (k - 1) (by omega)
      have g0 : wr.cell? ⟨b, o + k, none⟩ = some (.int .i64 (X k)) := by rw [hsi.cell (a := ⟨b, o + k, none⟩) (World.block_lt_of_cell? _ _ h0)]; exact h0
      have g1 : wr.cell? ⟨b, o + (k - 1), none⟩ = some (.int .i64 (X (k - 1))) := by rw [hsi.cell (a := ⟨b, o + (k - 1), none⟩) (World.block_lt_of_cell? _ _ h1)]; exact h1
      clear h0 h1 hc hs
      by_cases hx : X k ≤ X (k - 1)
      · go_wp2
        go_quiet (fail)
        go_wp2
        go_ret
        exact ⟨RetB.no, since_drewN hsi _⟩
      · have hx' : X (k - 1) < X k := by omega
        go_wp2
        go_quiet (fail)
        go_wp2
        go_roundg (m - (k + 1))
        case measure => omega
        case rel =>
          refine ⟨k + 1, by omega, rfl, by go_num, fun i h1 h2 => ?_, since_drewN hsi _⟩
          by_cases e : i + 1 = k
          · subst e; simpa using hx'
          · exact hH.out i (by omega) h2
    · have HA : Hid (∀ i, i + 1 < m → X i < X (i + 1)) := fun i h => hH.out i (by omega) h
      clear hH hc
      go_wp2
      go_loopg [7] m (fun g i wr => ∃ k : Nat, k ≤ m ∧ g = m - k ∧ i = .int .i64 k ∧ Hid (∀ u, u < k → (∀ j, j < L u → 0 ≤ Z u j ∧ Z u j < m ∧ Z u j ≠ u) ∧ ∀ j, j + 1 < L u → Z u j < Z u (j + 1)) ∧ w.Since w.heap.size wr)
      case atStart => exact ⟨0, by omega, rfl, rfl, fun u h => by omega, hsi⟩
      case round =>
        clear hsi
        obtain ⟨q, hq, rfl, rfl, hH, hsi⟩ := hrel
        by_cases hlq : q < m
        · obtain ⟨rfl, h0, hcc⟩ := hs q hlq
          have g0 : wr.cell? ⟨sb, s0 + q, none⟩ = some (.slice (R q) (L q) (C q)) := by rw [hsi.cell (a := ⟨sb, s0 + q, none⟩) (World.block_lt_of_cell? _ _ h0)]; exact h0
          have hLq := hL q hlq
          clear h0 hs hL
          rcases Nat.eq_zero_or_pos (L q) with hz | hp
          · rw [hz] at g0
            clear hcc hLq
            go_wp2
            refine wp_loop_rounds 1 ?_
            rw [rounds_succ]
            go_wp2
            go_roundg (m - (q + 1))
            case measure => omega
            case rel =>
              refine ⟨q + 1, by omega, rfl, by go_num, fun u hu => ?_, hsi⟩
              by_cases e : u = q
              · subst e; exact ⟨fun i hi => by omega, fun i hi => by omega⟩
              · exact hH.out u (by omega)
          rw [(hcc 0 hp).1] at g0
          have hcc' : ∀ j, j < L q → w.cell? ⟨rb q, ro q + j, none⟩ = some (.int .i64 (Z q j)) := fun j hj => (hcc j hj).2
          clear hcc
          go_wp2
          clear g0
          go_loopg [9] (L q) (fun g i wr => ∃ k : Nat, k ≤ L q ∧ g = L q - k ∧ i = .int .i64 k ∧ Hid ((∀ j, j < k → 0 ≤ Z q j ∧ Z q j < m ∧ Z q j ≠ q) ∧ ∀ j, j + 1 < k → Z q j < Z q (j + 1)) ∧ w.Since w.heap.size wr)
          case atStart => exact ⟨0, by omega, rfl, rfl, ⟨fun u h => by omega, fun u h => by omega⟩, hsi⟩
          case round =>
            clear hsi
            obtain ⟨j, hj, rfl, rfl, hI, hsi⟩ := hrel
            by_cases hlj : j < L q
            · have h0 := hcc' j hlj
              have g0 : wr.cell? ⟨rb q, ro q + j, none⟩ = some (.int .i64 (Z q j)) := by rw [hsi.cell (a := ⟨rb q, ro q + j, none⟩) (World.block_lt_of_cell? _ _ h0)]; exact h0
              have g1 : 0 < j → wr.cell? ⟨rb q, ro q + (j - 1), none⟩ = some (.int .i64 (Z q (j - 1))) := fun hp => by
                have h0 := hcc' (j - 1) (by omega)
                rw [hsi.cell (a := ⟨rb q, ro q + (j - 1), none⟩) (World.block_lt_of_cell? _ _ h0)]; exact h0
              clear h0 hcc'
              by_cases c1 : Z q j < 0
              · go_wp2
                go_ret
                exact ⟨RetB.no, hsi⟩
              by_cases c2 : (m : Int) ≤ Z q j
              · go_wp2
                go_ret
                exact ⟨RetB.no, hsi⟩
              by_cases c3 : Z q j = q
              · have c3' : (Z q j == (q : Int)) = true := by simp [c3]
                clear c3
                go_wp2
                go_ret
                exact ⟨RetB.no, hsi⟩
              have c3' : (Z q j == (q : Int)) = false := by simp [c3]
              by_cases c4 : 0 < j
              · have g1' := g1 c4
                by_cases c5 : Z q j ≤ Z q (j - 1)
                · clear g1
                  go_wp2
                  go_ret
                  exact ⟨RetB.no, hsi⟩
                · clear g1
                  have c5' : Z q (j - 1) < Z q j := by omega
                  go_wp2
                  go_roundg (L q - (j + 1))
                  case measure => omega
                  case rel =>
                    refine ⟨j + 1, by omega, rfl, by go_num, ⟨fun i hi => ?_, fun i hi => ?_⟩, hsi⟩
                    · by_cases e : i = j
                      · subst e; exact ⟨by omega, by omega, c3⟩
                      · exact hI.out.1 i (by omega)
                    · by_cases e : i + 1 = j
                      · subst e; simpa using c5'
                      · exact hI.out.2 i (by omega)
              · clear g1
                go_wp2
                go_roundg (L q - (j + 1))
                case measure => omega
                case rel =>
                  refine ⟨j + 1, by omega, rfl, by go_num, ⟨fun i hi => ?_, fun i hi => by omega⟩, hsi⟩
                  obtain rfl : i = j := by omega
                  exact ⟨by omega, by omega, c3⟩
            · go_wp2
              go_roundg (m - (q + 1))
              case measure => omega
              case rel =>
                refine ⟨q + 1, by omega, rfl, by go_num, fun u hu => ?_, hsi⟩
                by_cases e : u = q
                · subst e; exact ⟨fun i hi => hI.out.1 i (by omega), fun i hi => hI.out.2 i (by omega)⟩
                · exact hH.out u (by omega)
        · go_wp2
          go_ret
          refine ⟨RetB.yes ⟨rfl, HA.out, fun u hu => (hH.out u (by omega)).1, fun u hu => (hH.out u (by omega)).2⟩, hsi⟩
end Go.Proofs.Qxb6600028a
