import Derived.Test.Qxb6601152aCopyM
import Derived.Carry
namespace Go.Proofs.Qxb6601152a
open Go.RowKit Go.Deep

theorem newLearner (ao : Option Addr) (n c : Nat) (w : World) :
    Calls Try.prog 9 #[.slice ao n c] w fun e w' => e = .returned (.pointer (some ⟨w.heap.size + 1, 0, none⟩)) ∧
      w' = (w.alloc (.map #[] 0)).alloc (.cells #[.slice ao n c, .map (some w.heap.size), .int .u64 0, .int .u64 0, .string (ByteArray.mk #[])] 47) := by
  have hmm := @run_makeMap Try.prog
  go_enter Try.func9, Try.ntmps9
  go_wp2
  go_ret
  exact ⟨rfl, rfl⟩

theorem chosen (lb : Nat) (r d : Int) (s : ByteArray) (w : World) (c2 : w.cell? ⟨lb, 2, none⟩ = some (.int .u64 r)) (c3 : w.cell? ⟨lb, 3, none⟩ = some (.int .u64 d)) (c4 : w.cell? ⟨lb, 4, none⟩ = some (.string s)) :
    Calls Try.prog 14 #[.pointer (some ⟨lb, 0, none⟩)] w fun e w' => e = .returned (.agg #[.int .u64 r, .int .u64 d, .string s]) ∧ w.Since w.heap.size w' := by
  have hlt := World.block_lt_of_cell? _ _ c2
  go_enter Try.func14, Try.ntmps14
  go_wp2
  go_returns
  exact ⟨rfl, (World.Since.refl _ _).alloc (Nat.le_refl _) _⟩

theorem hit_mono {M : Nat → ZM} {a r d : Int} {i : Nat} (h : hit M i a r d = true) : ∀ j, i ≤ j → hit M j a r d = true
  | 0, hj => by obtain rfl : i = 0 := by omega
                exact h
  | j + 1, hj => by
    by_cases e : i = j + 1
    · subst e; exact h
    · rw [hit, hit_mono h j (by omega)]; rfl

set_option maxHeartbeats 2000000 in
theorem weight (n m j : Nat) (X : Nat → Int) (M : Nat → ZM) (av mv : Value) (r d : Int) (w : World) (hn : n ≤ 1048576) (hm : m ≤ 1048576) (hj : j < m)
    (hN : IntsI w 0 av n X) (hS : MsgsI w 0 mv m M) :
    Calls Try.prog 11 #[av, mv, .int .i64 j, .int .u64 r, .int .u64 d] w fun e w' => e = .returned (.int .i64 (wt n X M (j + 1) r d)) ∧ w.Since w.heap.size w' := by
  obtain ⟨ao, b, o, cap, rfl, hc⟩ := hN
  obtain ⟨so', sb, so, sc, rfl, hs⟩ := hS
  obtain ⟨rfl, _, _⟩ := hs j hj
  unfold wt
  go_enter Try.func11, Try.ntmps11
  go_wp2
  go_loopg [11, 12] n (fun g t i wr => w.Since w.heap.size wr ∧ ∃ k : Nat, k ≤ n ∧ g = n - k ∧ i = .int .i64 k ∧ t = .int .i64 (cnt k fun i => hit M (j + 1) (X i) r d))
  case atStart => exact ⟨.refl _ _, 0, Nat.zero_le _, rfl, rfl, rfl⟩
  case round =>
    obtain ⟨hsi, i, hi, rfl, rfl, rfl⟩ := hrel
    have hcl := cnt_le (fun i => hit M (j + 1) (X i) r d) i
    by_cases hlt : i < n
    · obtain ⟨rfl, _, hr⟩ := hc i hlt
      have hri : wr.cell? ⟨b, o + i, none⟩ = some (.int .u64 (X i)) := by rw [hsi.cell (a := ⟨b, o + i, none⟩) (World.block_lt_of_cell? _ _ hr)]; exact hr
      clear hc hr
      generalize hT : cnt i (fun i => hit M (j + 1) (X i) r d) = T at *
      go_wp2
      go_loopg [11, 14] (j + 1) (fun g t k wr => w.Since w.heap.size wr ∧ ∃ k' : Nat, k' ≤ j + 1 ∧ g = j + 1 - k' ∧ t = .int .i64 T ∧ k = .int .i64 k' ∧ hit M k' (X i) r d = false)
      case atStart => exact ⟨hsi, 0, Nat.zero_le _, rfl, rfl, rfl, rfl⟩
      case round =>
        clear hsi hri
        obtain ⟨hsi, k, hk, rfl, rfl, rfl, hno⟩ := hrel
        by_cases hkj : k < j + 1
        · obtain ⟨_, _, hr⟩ := hs k (by omega)
          have hr' := rangeAt_block hr (hsi.block _ (rangeAt_lt hr))
          have r0 : wr.cell? ⟨sb, so + k * 11, none⟩ = some (.int .u8 (M k).ty) := hr' 0 _ rfl
          have r1 : wr.cell? ⟨sb, so + k * 11 + 1, none⟩ = some (.int .u64 (M k).fr) := hr' 1 _ rfl
          have r2 : wr.cell? ⟨sb, so + k * 11 + 2, none⟩ = some (.int .u64 (M k).tt) := hr' 2 _ rfl
          have r3 : wr.cell? ⟨sb, so + k * 11 + 3, none⟩ = some (.int .u64 (M k).br) := hr' 3 _ rfl
          have r4 : wr.cell? ⟨sb, so + k * 11 + 4, none⟩ = some (.int .u64 (M k).bn) := hr' 4 _ rfl
          have r5 : wr.cell? ⟨sb, so + k * 11 + 5, none⟩ = some (.string (M k).vl) := hr' 5 _ rfl
          have r6 : wr.cell? ⟨sb, so + k * 11 + 6, none⟩ = some (.int .u64 (M k).pr) := hr' 6 _ rfl
          have r7 : wr.cell? ⟨sb, so + k * 11 + 7, none⟩ = some (.int .u64 (M k).pn) := hr' 7 _ rfl
          have r8 : wr.cell? ⟨sb, so + k * 11 + 8, none⟩ = some (.string (M k).pv) := hr' 8 _ rfl
          have r9 : wr.cell? ⟨sb, so + k * 11 + 9, none⟩ = some (.int .u64 (M k).qr) := hr' 9 _ rfl
          have r10 : wr.cell? ⟨sb, so + k * 11 + 10, none⟩ = some (.int .u64 (M k).qn) := hr' 10 _ rfl
          clear hr hr' hs
          by_cases k1 : (M k).ty = 4
          · have b1 : ((M k).ty == 4) = true := by simpa using k1
            by_cases k2 : (M k).fr = X i
            · have b2 : ((M k).fr == X i) = true := by simpa using k2
              by_cases k3 : (M k).br = r
              · have b3 : ((M k).br == r) = true := by simpa using k3
                by_cases k4 : (M k).bn = d
                · have b4 : ((M k).bn == d) = true := by simpa using k4
                  go_wp2
                  go_roundg (n - (i + 1))
                  case measure => omega
                  case rel =>
                    have hh : hit M (j + 1) (X i) r d = true := hit_mono (i := k + 1) (by rw [hit]; simp [is4, k1, k2, k3, k4]) _ (by omega)
                    exact ⟨hsi.alloc hsi.size _, i + 1, by omega, rfl, by go_num, by rw [cnt, hT, hh]; go_num⟩
                · have b4 : ((M k).bn == d) = false := by simpa using k4
                  go_wp2
                  go_roundg (j + 1 - (k + 1))
                  case measure => omega
                  case rel => exact ⟨hsi.alloc hsi.size _, k + 1, by omega, rfl, rfl, by go_num, by rw [hit, hno]; simp [is4, k4]⟩
              · have b3 : ((M k).br == r) = false := by simpa using k3
                go_wp2
                go_roundg (j + 1 - (k + 1))
                case measure => omega
                case rel => exact ⟨hsi.alloc hsi.size _, k + 1, by omega, rfl, rfl, by go_num, by rw [hit, hno]; simp [is4, k3]⟩
            · have b2 : ((M k).fr == X i) = false := by simpa using k2
              go_wp2
              go_roundg (j + 1 - (k + 1))
              case measure => omega
              case rel => exact ⟨hsi.alloc hsi.size _, k + 1, by omega, rfl, rfl, by go_num, by rw [hit, hno]; simp [is4, k2]⟩
          · have b1 : ((M k).ty == 4) = false := by simpa using k1
            go_wp2
            go_roundg (j + 1 - (k + 1))
            case measure => omega
            case rel => exact ⟨hsi.alloc hsi.size _, k + 1, by omega, rfl, rfl, by go_num, by rw [hit, hno]; simp [is4, k1]⟩
        · obtain rfl : k = j + 1 := by omega
          go_wp2
          go_roundg (n - (i + 1))
          case measure => omega
          case rel => exact ⟨hsi, i + 1, by omega, rfl, by go_num, by rw [cnt, hT, hno]; simp⟩
    · go_wp2
      go_ret
      obtain rfl : i = n := by omega
      exact ⟨rfl, hsi⟩
end Go.Proofs.Qxb6601152a
