import Derived.Test.Qxb6600297aWidth
import Derived.Deep.LoopGhost
namespace Go.Proofs.Qxb6600297a
open Go.RowKit

/-- Where the count has gone behind k steps, wrapped. -/
def Cnt (n : Int) (k : Nat) (v : Int) : Prop := (v = n - k ∧ -9223372036854775808 ≤ n - k) ∨ (v = n - k + 18446744073709551616 ∧ n - k < -9223372036854775808)

set_option maxRecDepth 1000000 in
theorem firstRunesNeg (s : ByteArray) (n : Int) (hn : n < 0) (hn' : -9223372036854775808 ≤ n) (hs : s.size ≤ 1048576) (w : World) :
    Calls Try.prog 11 #[.string s, .int .i64 n] w fun e w' => e = .returned (.string s) ∧ Grown w w' := by
  go_enter Try.func11, Try.ntmps11
  go_wp2
  go_loopw [1, 5] (fun n' i w' => ∃ (k : Nat) (v : Int), k ≤ 1048576 ∧ w' = w.iter s (adv s k) ∧ n' = .int .i64 v ∧ Hid (Cnt n k v)) (fun _ _ w' => s.size - w'.iterPos w.heap.size)
  case atStart => exact ⟨0, n, by omega, rfl, rfl, Or.inl (by omega)⟩
  case round =>
    obtain ⟨k, v, hk, rfl, rfl, hv⟩ := hrel
    have hle := adv_le s k
    have hv0 : v ≠ 0 ∧ -9223372036854775808 ≤ v ∧ v ≤ 9223372036854775807 := by
      rcases hv.out with ⟨h1, h2⟩ | ⟨h1, h2⟩ <;> omega
    obtain ⟨hv0, hv1, hv2⟩ := hv0
    have hvb : (v == 0) = false := by simpa using hv0
    by_cases hp : adv s k < s.size
    · have hnx : ∀ ty, (Instr.next (.pointer (some ⟨w.heap.size, 0, none⟩)) true ty).run Try.prog (w.iter s (adv s k)) = _ := fun ty => run_next_any w s (adv s k) ty hp
      have hwd := width_pos s _ hp
      have hst := adv_step hp
      have hge := adv_ge s k hp
      by_cases he : v = -9223372036854775808
      · subst he
        go_wp2
        go_roundw
        case rel =>
          refine ⟨k + 1, 9223372036854775807, by omega, by rw [hst], (by first | decide | (simp [wrap64]; done) | (unfold wrap64; rfl) | (rw [show wrap64 (-9223372036854775809) = 9223372036854775807 by unfold wrap64; omega])), ?_⟩
          rcases hv.out with ⟨h1, h2⟩ | ⟨h1, h2⟩
          · exact Or.inr (by omega)
          · exact Or.inr (by omega)
        case measure =>
          simp
          omega
      · go_wp2
        go_roundw
        case rel =>
          refine ⟨k + 1, v - 1, by omega, by rw [hst], by go_num, ?_⟩
          rcases hv.out with ⟨h1, h2⟩ | ⟨h1, h2⟩
          · exact Or.inl (by omega)
          · exact Or.inr (by omega)
        case measure =>
          simp
          omega
    · have hnx : ∀ ty, (Instr.next (.pointer (some ⟨w.heap.size, 0, none⟩)) true ty).run Try.prog (w.iter s (adv s k)) = _ := fun ty => run_next_end w s (adv s k) ty hp
      go_wp2
      go_ret
      exact ⟨rfl, Grown.iter (Grown.refl _) _ _⟩

theorem zzRunesNeg (s : ByteArray) (n : Int) (hn : n < 0) (hn' : -9223372036854775808 ≤ n) (hs : s.size ≤ 1048576) (w : World) :
    Calls Try.prog 7 #[.string s, .int .i64 n] w fun e w' => e = .returned (.string s) ∧ Grown w w' := by
  have H := firstRunesNeg s n hn hn' hs w
  go_enter Try.func7, Try.ntmps7
  go_wp2_with fail
  refine H.mono ?_
  rintro e w' ⟨rfl, hg⟩
  go_wp2
  go_ret
  exact ⟨rfl, hg⟩

theorem zzBytes6 (s : ByteArray) (n : Int) (hs : s.size ≤ maxLen) (w : World) :
    Calls Try.prog 6 #[.string s, .int .i64 n] w fun e w' => (∃ b, e = .returned (.bool b)) ∧ w' = w := by
  unfold maxLen at hs
  by_cases h : 1048576 < s.size
  · go_enter Try.func6, Try.ntmps6
    go_wp2
    go_ret
    exact ⟨⟨_, rfl⟩, rfl⟩
  · go_enter Try.func6, Try.ntmps6
    go_wp2
    go_ret
    exact ⟨⟨_, rfl⟩, rfl⟩

set_option maxRecDepth 1000000 in
theorem matches_ (s : ByteArray) (n : Int) (hs : s.size ≤ maxLen) (hn : (Lit.int .i64 n).wf = true) (w : World) :
    Calls Try.prog 3 #[.string s, .int .i64 n] w fun e w' => e = .returned (.bool true) ∧ Grown w w' := by
  have c6 := zzBytes6 s n hs w
  have hr : -9223372036854775808 ≤ n ∧ n ≤ 9223372036854775807 := by
    simp [Lit.wf, IntKind.min, IntKind.max, IntKind.signed, IntKind.bits] at hn
    omega
  unfold maxLen at hs
  obtain ⟨hr1, hr2⟩ := hr
  go_enter Try.func3, Try.ntmps3
  go_wp2_with fail
  refine c6.mono ?_
  rintro e w' ⟨⟨b, rfl⟩, rfl⟩
  clear c6 hn
  cases b with
  | false =>
    go_wp2
    go_ret
    exact ⟨rfl, Grown.refl _⟩
  | true =>
  by_cases h1 : 1048576 < s.size
  · go_wp2
    go_ret
    exact ⟨rfl, Grown.refl _⟩
  by_cases h2 : n < 0
  · have c1 := zzRunesNeg s n h2 hr1 (by omega) w'
    go_wp2_with fail
    refine c1.mono ?_
    rintro e w2 ⟨rfl, hg2⟩
    clear c1
    go_wp2
    go_ret
    exact ⟨rfl, hg2⟩
  · have c1 := zzRunes s n (by omega) hr2 (by omega) w'
    go_wp2_with fail
    refine c1.mono ?_
    rintro e w2 ⟨rfl, hg2⟩
    clear c1
    have x1 : pre s n = s.extract 0 (adv s n.toNat) := by unfold pre; rw [if_neg (by omega)]
    obtain ⟨N, rfl⟩ : ∃ N : Nat, n = N := ⟨n.toNat, by omega⟩
    rw [x1, show ((N : Int)).toNat = N from rfl]
    have HG : Hid (Grown w' w2) := hg2
    clear x1 hg2
    go_wp2
    go_loopg [7, 8] s.size (fun gk ip ik wr => ∃ k : Nat, k ≤ N ∧ gk = s.size - adv s k ∧ ip = .int .i64 (adv s k) ∧ ik = .int .i64 k ∧ w2 = wr)
    case atStart => exact ⟨0, Nat.zero_le _, rfl, rfl, rfl, rfl⟩
    case round =>
      obtain ⟨k, hk, rfl, rfl, rfl, rfl⟩ := hrel
      have hle := adv_le s k
      by_cases hp : adv s k < s.size
      · have hp' : decide ((adv s k : Int) < (s.size : Int)) = true := by simp; exact hp
        by_cases he : k < N
        · have he' : decide ((k : Int) < (N : Int)) = true := by simp; exact he
          have c8 := width s (adv s k) hp (by omega) w2
          have hst := adv_step hp
          have hwp := width_pos s _ hp
          have hwl := width_le s _ hp
          generalize (Utf8.decode s (adv s k)).2 = W at *
          have HST : Hid (adv s (k + 1) = adv s k + W) := hst
          clear hst
          go_wp2_with fail
          refine c8.mono ?_
          rintro e w3 ⟨rfl, rfl⟩
          clear c8
          go_wp2
          go_roundg (s.size - adv s (k + 1))
          case measure => have := HST.out; omega
          case rel => exact ⟨k + 1, by omega, rfl, by rw [HST.out]; go_num, by go_num, rfl⟩
        · have he' : decide ((k : Int) < (N : Int)) = false := by simp; omega
          obtain rfl : k = N := by omega
          go_wp2
          go_ret
          exact ⟨rfl, HG.out⟩
      · have hp' : decide ((adv s k : Int) < (s.size : Int)) = false := by simp; omega
        have h1' := adv_end hp (N - k)
        rw [show k + (N - k) = N by omega] at h1'
        rw [h1']
        clear h1'
        go_wp2
        go_ret
        exact ⟨rfl, HG.out⟩
end Go.Proofs.Qxb6600297a
