import Derived.Test.Qxb6600297aRunes
namespace Go.Proofs.Qxb6600297a
open Go.RowKit

/-- The width of a decoding step, told by its bytes. -/
def Wid (sz p b0 b1 b2 b3 W : Nat) : Prop :=
  (W = 1 ∨ W = 2 ∨ W = 3 ∨ W = 4) ∧
  (W = 2 ↔ 194 ≤ b0 ∧ b0 ≤ 223 ∧ p + 1 < sz ∧ 128 ≤ b1 ∧ b1 ≤ 191) ∧
  (W = 3 ↔ p + 2 < sz ∧ 128 ≤ b2 ∧ b2 ≤ 191 ∧ ((b0 = 224 ∧ 160 ≤ b1 ∧ b1 ≤ 191) ∨ (225 ≤ b0 ∧ b0 ≤ 239 ∧ b0 ≠ 237 ∧ 128 ≤ b1 ∧ b1 ≤ 191) ∨ (b0 = 237 ∧ 128 ≤ b1 ∧ b1 ≤ 159))) ∧
  (W = 4 ↔ p + 3 < sz ∧ 128 ≤ b2 ∧ b2 ≤ 191 ∧ 128 ≤ b3 ∧ b3 ≤ 191 ∧ ((b0 = 240 ∧ 144 ≤ b1 ∧ b1 ≤ 191) ∨ (241 ≤ b0 ∧ b0 ≤ 243 ∧ 128 ≤ b1 ∧ b1 ≤ 191) ∨ (b0 = 244 ∧ 128 ≤ b1 ∧ b1 ≤ 143)))

set_option maxHeartbeats 4000000 in
theorem wid_decode (s : ByteArray) (p : Nat) : Wid s.size p (s.get! (p + 0)).toNat (s.get! (p + 1)).toNat (s.get! (p + 2)).toNat (s.get! (p + 3)).toNat (Utf8.decode s p).2 := by
  have l0 := (s.get! (p + 0)).toNat_lt
  have l1 := (s.get! (p + 1)).toNat_lt
  have l2 := (s.get! (p + 2)).toNat_lt
  have l3 := (s.get! (p + 3)).toNat_lt
  generalize hW : (Utf8.decode s p).2 = W
  unfold Utf8.decode Utf8.valid at hW
  simp only [Bool.and_eq_true, Bool.or_eq_true, decide_eq_true_eq, beq_iff_eq] at hW
  unfold Wid
  generalize (s.get! (p + 0)).toNat = b0 at *
  generalize (s.get! (p + 1)).toNat = b1 at *
  generalize (s.get! (p + 2)).toNat = b2 at *
  generalize (s.get! (p + 3)).toNat = b3 at *
  generalize s.size = sz at *
  split at hW
  · simp only at hW; refine ⟨?_, ⟨?_, ?_⟩, ⟨?_, ?_⟩, ⟨?_, ?_⟩⟩ <;> omega
  · split at hW
    · split at hW <;> simp only at hW <;> refine ⟨?_, ⟨?_, ?_⟩, ⟨?_, ?_⟩, ⟨?_, ?_⟩⟩ <;> omega
    · split at hW
      · split at hW <;> simp only at hW <;> refine ⟨?_, ⟨?_, ?_⟩, ⟨?_, ?_⟩, ⟨?_, ?_⟩⟩ <;> omega
      · split at hW
        · split at hW <;> simp only at hW <;> refine ⟨?_, ⟨?_, ?_⟩, ⟨?_, ?_⟩, ⟨?_, ?_⟩⟩ <;> omega
        · simp only at hW; refine ⟨?_, ⟨?_, ?_⟩, ⟨?_, ?_⟩, ⟨?_, ?_⟩⟩ <;> omega

/-- A fact laid out of the walk's sight. -/
def Hid (P : Prop) : Prop := P
theorem Hid.out {P : Prop} (h : Hid P) : P := h

theorem get_at (s : ByteArray) (i : Nat) (h : i < s.size) : s.get! i = s[i]'h := by
  simp [ByteArray.get!, getElem!_pos, h]
  rfl


end Go.Proofs.Qxb6600297a
