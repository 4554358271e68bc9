import Derived.Test.Qxb6600297aRows
import Derived.WalkKit
import Derived.RowKit3
namespace Go.Proofs.Qxb6600297a
open Go.RowKit

theorem Grown.iter {W w' : World} (h : Grown W w') (s : ByteArray) (p : Nat) : Grown W (w'.iter s p) := by
  refine ⟨World.keptBut_trans h.1 (World.keptBut_alloc _ _ _), fun a => ?_, Nat.le_trans h.2.2 (by show w'.heap.size ≤ (w'.heap.push _).size; simp)⟩
  refine Eq.trans ?_ (h.2.1 a)
  show World.frozen? (w'.alloc _) a = w'.frozen? a
  by_cases e : a.block = w'.heap.size
  · have e1 : (w'.alloc (.stringIter s p)).heap[a.block]? = some (.stringIter s p) := by rw [e]; exact (MapKept.heap_alloc w' _).1
    have e2 : w'.heap[a.block]? = none := by rw [e]; simp
    simp [World.frozen?, e1, e2]
  · have e1 : (w'.alloc (.stringIter s p)).heap[a.block]? = w'.heap[a.block]? := by
      show (w'.heap.push _)[a.block]? = _
      rw [Array.getElem?_push, if_neg e]
    simp [World.frozen?, e1]

theorem grown_trans {a b c : World} (h : Grown a b) (k : Grown b c) : Grown a c :=
  ⟨World.keptBut_trans h.1 (k.frame _), fun x => (k.2.1 x).trans (h.2.1 x), Nat.le_trans h.2.2 k.2.2⟩

theorem width_pos (s : ByteArray) (pos : Nat) (h : pos < s.size) : 1 ≤ (Utf8.decode s pos).2 := by
  by_cases ha : (s[pos]'h).toNat < 128
  · rw [decode_ascii s pos h ha]
    exact Nat.le_refl _
  · exact (decode_high s pos h (by omega)).2

theorem width_le (s : ByteArray) (pos : Nat) (h : pos < s.size) : (Utf8.decode s pos).2 ≤ 4 ∧ pos + (Utf8.decode s pos).2 ≤ s.size := by
  unfold Utf8.decode
  simp only [Bool.and_eq_true, decide_eq_true_eq, beq_iff_eq]
  split
  · simp only; omega
  · split
    · rename_i h2
      obtain ⟨_, h3, _⟩ := h2
      split <;> simp only <;> omega
    · split
      · rename_i h2
        obtain ⟨⟨_, h3, _⟩, h4, _⟩ := h2
        split <;> simp only <;> omega
      · split
        · rename_i h2
          obtain ⟨⟨⟨_, h3, _⟩, h4, _⟩, h5, _⟩ := h2
          split <;> simp only <;> omega
        · simp only; omega

/-- The place behind the next step. -/
def stepP (s : ByteArray) (p : Nat) : Nat := if p < s.size then p + (Utf8.decode s p).2 else p
/-- The place behind the first k steps. -/
def adv (s : ByteArray) : Nat → Nat
  | 0 => 0
  | k + 1 => stepP s (adv s k)
theorem adv_le (s : ByteArray) : ∀ k, adv s k ≤ s.size
  | 0 => Nat.zero_le _
  | k + 1 => by
    have h := adv_le s k
    show stepP s (adv s k) ≤ _
    unfold stepP
    split
    · rename_i h1; exact (width_le s _ h1).2
    · exact h
theorem adv_end {s : ByteArray} {k : Nat} (h : ¬ adv s k < s.size) : ∀ d, adv s (k + d) = adv s k
  | 0 => rfl
  | d + 1 => by
    have h1 := adv_end h d
    show stepP s (adv s (k + d)) = _
    rw [h1]
    unfold stepP
    rw [if_neg h]
theorem adv_step {s : ByteArray} {k : Nat} (h : adv s k < s.size) : adv s (k + 1) = adv s k + (Utf8.decode s (adv s k)).2 := by
  show stepP s (adv s k) = _
  unfold stepP
  rw [if_pos h]
theorem adv_ge (s : ByteArray) : ∀ k, adv s k < s.size → k ≤ adv s k
  | 0, _ => Nat.le_refl _
  | k + 1, h => by
    by_cases h1 : adv s k < s.size
    · have := adv_ge s k h1
      rw [adv_step h1]
      have := width_pos s _ h1
      omega
    · have := adv_end h1 1
      rw [this] at h
      exact absurd h h1
theorem extract_all (s : ByteArray) : s.extract 0 s.size = s := by simp

/-- What firstRunes hands back. -/
def pre (s : ByteArray) (n : Int) : ByteArray := if n < 0 then s else s.extract 0 (adv s n.toNat)

set_option maxRecDepth 1000000 in
theorem firstRunes (s : ByteArray) (n : Int) (hn : 0 ≤ n) (hn' : n ≤ 9223372036854775807) (_hs : s.size ≤ 1048576) (w : World) :
    Calls Try.prog 11 #[.string s, .int .i64 n] w fun e w' => e = .returned (.string (pre s n)) ∧ Grown w w' := by
  obtain ⟨N, rfl⟩ : ∃ N : Nat, n = N := ⟨n.toNat, by omega⟩
  have hpre : pre s (N : Int) = s.extract 0 (adv s N) := by unfold pre; rw [if_neg (by omega)]; rfl
  rw [hpre]
  clear hpre
  go_enter Try.func11, Try.ntmps11
  go_wp2
  go_loopw [1, 5] (fun n i w' => ∃ k : Nat, k ≤ N ∧ w' = w.iter s (adv s k) ∧ n = .int .i64 ((N : Int) - k)) (fun _ _ w' => s.size - w'.iterPos w.heap.size)
  case atStart => exact ⟨0, Nat.zero_le _, rfl, by simp⟩
  case round =>
    obtain ⟨k, hk, rfl, rfl⟩ := hrel
    have hle := adv_le s k
    by_cases hp : adv s k < s.size
    · have hnx : ∀ ty, (Instr.next (.pointer (some ⟨w.heap.size, 0, none⟩)) true ty).run Try.prog (w.iter s (adv s k)) = _ := fun ty => run_next_any w s (adv s k) ty hp
      have hwd := width_pos s _ hp
      have hst := adv_step hp
      by_cases he : k = N
      · subst he
        go_wp2
        go_ret
        exact ⟨rfl, Grown.iter (Grown.refl _) _ _⟩
      · go_wp2
        go_roundw
        case rel => exact ⟨k + 1, by omega, by rw [hst], by go_num⟩
        case measure =>
          simp
          omega
    · have hnx : ∀ ty, (Instr.next (.pointer (some ⟨w.heap.size, 0, none⟩)) true ty).run Try.prog (w.iter s (adv s k)) = _ := fun ty => run_next_end w s (adv s k) ty hp
      go_wp2
      go_ret
      refine ⟨?_, Grown.iter (Grown.refl _) _ _⟩
      have h1 := adv_end hp (N - k)
      rw [show k + (N - k) = N by omega] at h1
      rw [h1, show adv s k = s.size by omega, extract_all]
      rfl

set_option maxRecDepth 1000000 in
theorem zzRunes (s : ByteArray) (n : Int) (hn : 0 ≤ n) (hn' : n ≤ 9223372036854775807) (hs : s.size ≤ 1048576) (w : World) :
    Calls Try.prog 7 #[.string s, .int .i64 n] w fun e w' => e = .returned (.string (pre s n)) ∧ Grown w w' := by
  have H := firstRunes s n hn hn' hs w
  go_enter Try.func7, Try.ntmps7
  go_wp2_with fail
  refine H.mono ?_
  rintro e w' ⟨rfl, hg⟩
  go_wp2
  go_ret
  exact ⟨rfl, hg⟩

theorem zzBytes10 (s : ByteArray) (n : Int) (hs : s.size ≤ maxLen) (w : World) :
    Calls Try.prog 10 #[.string s, .int .i64 n] w fun e w' => (∃ b, e = .returned (.bool b)) ∧ w' = w := by
  unfold maxLen at hs
  by_cases h : 1048576 < s.size
  · go_enter Try.func10, Try.ntmps10
    go_wp2
    go_ret
    exact ⟨⟨_, rfl⟩, rfl⟩
  · go_enter Try.func10, Try.ntmps10
    go_wp2
    go_ret
    exact ⟨⟨_, rfl⟩, rfl⟩

theorem pre_size (s : ByteArray) {n : Int} (hn : 0 ≤ n) : (pre s n).size = adv s n.toNat := by
  unfold pre
  rw [if_neg (by omega)]
  have := adv_le s n.toNat
  simp
  omega

set_option maxRecDepth 1000000 in
theorem grows (s : ByteArray) (n : Int) (hs : s.size ≤ maxLen) (_hn : (Lit.int .i64 n).wf = true) (w : World) :
    Calls Try.prog 5 #[.string s, .int .i64 n] w fun e w' => e = .returned (.bool true) ∧ Grown w w' := by
  have c10 := zzBytes10 s n hs w
  unfold maxLen at hs
  go_enter Try.func5, Try.ntmps5
  go_wp2_with fail
  refine c10.mono ?_
  rintro e w' ⟨⟨b, rfl⟩, rfl⟩
  clear c10
  cases b with
  | false =>
    go_wp2
    go_ret
    exact ⟨rfl, Grown.refl _⟩
  | true =>
  by_cases h1 : 1048576 < s.size
  · go_wp2
    go_ret
    exact ⟨rfl, Grown.refl _⟩
  by_cases h2 : n < 0
  · go_wp2
    go_ret
    exact ⟨rfl, Grown.refl _⟩
  by_cases h3 : 1073741824 < n
  · go_wp2
    go_ret
    exact ⟨rfl, Grown.refl _⟩
  have c1 := zzRunes s n (by omega) (by omega) (by omega) w'
  have c2 := fun w => zzRunes s (n + 1) (by omega) (by omega) (by omega) w
  have e1 := pre_size s (n := n) (by omega)
  have e2 := pre_size s (n := n + 1) (by omega)
  go_wp2_with fail
  refine c1.mono ?_
  rintro e w2 ⟨rfl, hg2⟩
  go_wp2_with fail
  refine (c2 w2).mono ?_
  rintro e w3 ⟨rfl, hg3⟩
  clear c1 c2
  have HG : Grown w' w3 := grown_trans hg2 hg3
  have hA := adv_le s n.toNat
  have hB := adv_le s (n + 1).toNat
  have x1 : s.extract 0 (adv s n.toNat) = pre s n := by unfold pre; rw [if_neg (by omega)]
  have x2 : s.extract 0 (adv s (n + 1).toNat) = pre s (n + 1) := by unfold pre; rw [if_neg (by omega)]
  have hst : (adv s n.toNat = s.size ∧ adv s (n + 1).toNat = s.size) ∨ (adv s n.toNat < s.size ∧ adv s n.toNat + 1 ≤ adv s (n + 1).toNat ∧ adv s (n + 1).toNat ≤ adv s n.toNat + 4) := by
    rw [show (n + 1).toNat = n.toNat + 1 by omega]
    by_cases h : adv s n.toNat < s.size
    · right
      have := width_pos s _ h
      have := width_le s _ h
      rw [adv_step h]
      omega
    · left
      rw [adv_end h 1]
      omega
  generalize pre s n = r0 at *
  generalize pre s (n + 1) = r1 at *
  generalize adv s n.toNat = A at *
  generalize adv s (n + 1).toNat = B at *
  subst e1 e2
  rcases hst with ⟨hA1, hB1⟩ | ⟨hA1, hB1, hB2⟩
  · rw [hA1, extract_all] at x1
    rw [hB1, extract_all] at x2
    subst x1 x2
    clear hA hB hA1 hB1
    go_wp2
    go_ret
    exact ⟨rfl, HG⟩
  · have z : decide ((r1.size : Int) - (r0.size : Int) ≤ 4) = true := by simp; omega
    go_wp2
    go_ret
    exact ⟨rfl, HG⟩
end Go.Proofs.Qxb6600297a
