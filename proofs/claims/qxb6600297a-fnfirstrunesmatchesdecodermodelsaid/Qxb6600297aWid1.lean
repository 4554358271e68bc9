import Derived.Test.Qxb6600297aWid0
namespace Go.Proofs.Qxb6600297a
open Go.RowKit
set_option maxRecDepth 1000000 in
set_option maxHeartbeats 8000000 in
theorem width_D (s : ByteArray) (p : Nat) (hp : p < s.size) (hs : s.size ≤ 1048576) (c1 : 194 ≤ (s[p]'hp).toNat) (c2 : (s[p]'hp).toNat ≤ 223) (w : World) :
    Calls Try.prog 8 #[.string s, .int .i64 p] w fun e w' => e = .returned (.int .i64 (Utf8.decode s p).2) ∧ w' = w := by
  have hd := wid_decode s p
  generalize (Utf8.decode s p).2 = W at *
  rw [get_at s (p + 0) hp] at hd
  have hd0 : (s[p + 0]'hp).toNat = (s[p]'hp).toNat := rfl
  rw [hd0] at hd
  have HD := show Hid (Wid _ _ _ _ _ _ _) from hd
  clear hd0 hd
  have g1 : Hid (∀ h : p + 1 < s.size, (s.get! (p + 1)).toNat = (s[p + 1]'h).toNat) := fun h => by rw [get_at s (p + 1) h]
  have g2 : Hid (∀ h : p + 2 < s.size, (s.get! (p + 2)).toNat = (s[p + 2]'h).toNat) := fun h => by rw [get_at s (p + 2) h]
  have g3 : Hid (∀ h : p + 3 < s.size, (s.get! (p + 3)).toNat = (s[p + 3]'h).toNat) := fun h => by rw [get_at s (p + 3) h]
  by_cases hc : p + 1 < s.size ∧ 128 ≤ (s.get! (p + 1)).toNat ∧ (s.get! (p + 1)).toNat ≤ 191
  · obtain rfl : W = 2 := HD.out.2.1.2 (by omega)
    clear HD
    obtain ⟨j0, j1, j2⟩ := hc
    have q1 : p + 1 < s.size := by omega
    rw [g1.out q1] at j1 j2
    go_enter Try.func8, Try.ntmps8
    go_wp2
    go_ret
    exact ⟨rfl, rfl⟩
  · obtain rfl : W = 1 := by
      rcases HD.out.1 with e | e | e | e
      · exact e
      · exfalso; have := HD.out.2.1.1 e; omega
      · exfalso; have := HD.out.2.2.1.1 e; omega
      · exfalso; have := HD.out.2.2.2.1 e; omega
    have HC : Hid (¬ (p + 1 < s.size ∧ 128 ≤ (s.get! (p + 1)).toNat ∧ (s.get! (p + 1)).toNat ≤ 191)) := hc
    clear HD hc
    go_enter Try.func8, Try.ntmps8
    go_wp2
    all_goals
      go_ret
      first
        | exact ⟨rfl, rfl⟩
        | (exfalso
           have k1 := g1.out (by omega)
           skip
           skip
           have hc := HC.out
           omega)
        | (exfalso
           simp only [beq_iff_eq, beq_eq_false_iff_ne, ne_eq] at *
           omega)

set_option maxRecDepth 1000000 in
set_option maxHeartbeats 8000000 in
theorem width_E (s : ByteArray) (p : Nat) (hp : p < s.size) (hs : s.size ≤ 1048576) (c1 : 224 ≤ (s[p]'hp).toNat) (c2 : (s[p]'hp).toNat ≤ 224) (w : World) :
    Calls Try.prog 8 #[.string s, .int .i64 p] w fun e w' => e = .returned (.int .i64 (Utf8.decode s p).2) ∧ w' = w := by
  have hd := wid_decode s p
  generalize (Utf8.decode s p).2 = W at *
  rw [get_at s (p + 0) hp] at hd
  have hd0 : (s[p + 0]'hp).toNat = (s[p]'hp).toNat := rfl
  rw [hd0] at hd
  have HD := show Hid (Wid _ _ _ _ _ _ _) from hd
  clear hd0 hd
  have g1 : Hid (∀ h : p + 1 < s.size, (s.get! (p + 1)).toNat = (s[p + 1]'h).toNat) := fun h => by rw [get_at s (p + 1) h]
  have g2 : Hid (∀ h : p + 2 < s.size, (s.get! (p + 2)).toNat = (s[p + 2]'h).toNat) := fun h => by rw [get_at s (p + 2) h]
  have g3 : Hid (∀ h : p + 3 < s.size, (s.get! (p + 3)).toNat = (s[p + 3]'h).toNat) := fun h => by rw [get_at s (p + 3) h]
  by_cases hc : p + 2 < s.size ∧ 160 ≤ (s.get! (p + 1)).toNat ∧ (s.get! (p + 1)).toNat ≤ 191 ∧ 128 ≤ (s.get! (p + 2)).toNat ∧ (s.get! (p + 2)).toNat ≤ 191
  · obtain rfl : W = 3 := HD.out.2.2.1.2 (by omega)
    clear HD
    obtain ⟨j0, j1, j2, j3, j4⟩ := hc
    have q1 : p + 1 < s.size := by omega
    have q2 : p + 2 < s.size := by omega
    rw [g1.out q1] at j1 j2
    rw [g2.out q2] at j3 j4
    go_enter Try.func8, Try.ntmps8
    go_wp2
    go_ret
    exact ⟨rfl, rfl⟩
  · obtain rfl : W = 1 := by
      rcases HD.out.1 with e | e | e | e
      · exact e
      · exfalso; have := HD.out.2.1.1 e; omega
      · exfalso; have := HD.out.2.2.1.1 e; omega
      · exfalso; have := HD.out.2.2.2.1 e; omega
    have HC : Hid (¬ (p + 2 < s.size ∧ 160 ≤ (s.get! (p + 1)).toNat ∧ (s.get! (p + 1)).toNat ≤ 191 ∧ 128 ≤ (s.get! (p + 2)).toNat ∧ (s.get! (p + 2)).toNat ≤ 191)) := hc
    clear HD hc
    go_enter Try.func8, Try.ntmps8
    go_wp2
    all_goals
      go_ret
      first
        | exact ⟨rfl, rfl⟩
        | (exfalso
           have k1 := g1.out (by omega)
           have k2 := g2.out (by omega)
           skip
           have hc := HC.out
           omega)
        | (exfalso
           simp only [beq_iff_eq, beq_eq_false_iff_ne, ne_eq] at *
           omega)

set_option maxRecDepth 1000000 in
set_option maxHeartbeats 8000000 in
theorem width_F (s : ByteArray) (p : Nat) (hp : p < s.size) (hs : s.size ≤ 1048576) (c1 : 225 ≤ (s[p]'hp).toNat) (c2 : (s[p]'hp).toNat ≤ 236) (w : World) :
    Calls Try.prog 8 #[.string s, .int .i64 p] w fun e w' => e = .returned (.int .i64 (Utf8.decode s p).2) ∧ w' = w := by
  have hd := wid_decode s p
  generalize (Utf8.decode s p).2 = W at *
  rw [get_at s (p + 0) hp] at hd
  have hd0 : (s[p + 0]'hp).toNat = (s[p]'hp).toNat := rfl
  rw [hd0] at hd
  have HD := show Hid (Wid _ _ _ _ _ _ _) from hd
  clear hd0 hd
  have g1 : Hid (∀ h : p + 1 < s.size, (s.get! (p + 1)).toNat = (s[p + 1]'h).toNat) := fun h => by rw [get_at s (p + 1) h]
  have g2 : Hid (∀ h : p + 2 < s.size, (s.get! (p + 2)).toNat = (s[p + 2]'h).toNat) := fun h => by rw [get_at s (p + 2) h]
  have g3 : Hid (∀ h : p + 3 < s.size, (s.get! (p + 3)).toNat = (s[p + 3]'h).toNat) := fun h => by rw [get_at s (p + 3) h]
  by_cases hc : p + 2 < s.size ∧ 128 ≤ (s.get! (p + 1)).toNat ∧ (s.get! (p + 1)).toNat ≤ 191 ∧ 128 ≤ (s.get! (p + 2)).toNat ∧ (s.get! (p + 2)).toNat ≤ 191
  · obtain rfl : W = 3 := HD.out.2.2.1.2 (by omega)
    clear HD
    obtain ⟨j0, j1, j2, j3, j4⟩ := hc
    have q1 : p + 1 < s.size := by omega
    have q2 : p + 2 < s.size := by omega
    rw [g1.out q1] at j1 j2
    rw [g2.out q2] at j3 j4
    go_enter Try.func8, Try.ntmps8
    go_wp2
    go_ret
    exact ⟨rfl, rfl⟩
  · obtain rfl : W = 1 := by
      rcases HD.out.1 with e | e | e | e
      · exact e
      · exfalso; have := HD.out.2.1.1 e; omega
      · exfalso; have := HD.out.2.2.1.1 e; omega
      · exfalso; have := HD.out.2.2.2.1 e; omega
    have HC : Hid (¬ (p + 2 < s.size ∧ 128 ≤ (s.get! (p + 1)).toNat ∧ (s.get! (p + 1)).toNat ≤ 191 ∧ 128 ≤ (s.get! (p + 2)).toNat ∧ (s.get! (p + 2)).toNat ≤ 191)) := hc
    clear HD hc
    go_enter Try.func8, Try.ntmps8
    go_wp2
    all_goals
      go_ret
      first
        | exact ⟨rfl, rfl⟩
        | (exfalso
           have k1 := g1.out (by omega)
           have k2 := g2.out (by omega)
           skip
           have hc := HC.out
           omega)
        | (exfalso
           simp only [beq_iff_eq, beq_eq_false_iff_ne, ne_eq] at *
           omega)

end Go.Proofs.Qxb6600297a
