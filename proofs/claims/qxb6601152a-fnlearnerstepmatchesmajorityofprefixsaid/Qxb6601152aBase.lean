import Derived.Test.Qxb6601152aRows
import Derived.WalkKit
import Derived.WalkSpells
import Derived.WalkLawsBesides
import Derived.Deep.LoopGhost
import Derived.Deep.OwnRows
import Derived.Deep.Slices
import Derived.Deep.MidRow
import Derived.Deep.WholeRow
import Derived.Deep.QuietTactic
import Derived.BigQuiet
namespace Go.Proofs.Qxb6601152a
open Go.RowKit Go.Deep

theorem Try.info30 : (Try.prog.info? 30).map (fun i => (i.zero, i.size, i.bytes)) = some (some (.int .u64 0), 1, 8) := by kernel_rfl
theorem Try.info22 : (Try.prog.info? 22).map (fun i => (i.zero, i.size, i.bytes)) = some (some (.slice none 0 0), 1, 24) := by kernel_rfl
theorem Try.size36 : (Try.prog.info? 36).map (·.size) = some 11 := by kernel_rfl
theorem nil22 (w : World) (a : Option Addr) (n c : Nat) : (binOp .eql 22 (.slice a n c) (.slice none 0 0)).run Try.prog w = .ok (.bool a.isNone) w := Lib.run_eql_slice_nil w 22 30 a n c 0 0 Try.underlying22
theorem nil23 (w : World) (a : Option Addr) (n c : Nat) : (binOp .eql 23 (.slice a n c) (.slice none 0 0)).run Try.prog w = .ok (.bool a.isNone) w := Lib.run_eql_slice_nil w 23 36 a n c 0 0 Try.underlying23

/-- A message's fields. -/
structure ZM where
  ty : Int
  fr : Int
  tt : Int
  br : Int
  bn : Int
  vl : ByteArray
  pr : Int
  pn : Int
  pv : ByteArray
  qr : Int
  qn : Int

def ZM.cells (z : ZM) : List Value :=
  [.int .u8 z.ty, .int .u64 z.fr, .int .u64 z.tt, .int .u64 z.br, .int .u64 z.bn, .string z.vl, .int .u64 z.pr, .int .u64 z.pn, .string z.pv, .int .u64 z.qr, .int .u64 z.qn]

/-- The slice v reads as the n integers X, at block 'lo' or above. -/
def IntsI (w : World) (lo : Nat) (v : Value) (n : Nat) (X : Nat → Int) : Prop :=
  ∃ (ao : Option Addr) (b o cap : Nat), v = .slice ao n cap ∧ ∀ j, j < n → ao = some ⟨b, o, none⟩ ∧ lo ≤ b ∧ w.cell? ⟨b, o + j, none⟩ = some (.int .u64 (X j))

/-- The slice v reads as the n messages M, at block 'lo' or above. -/
def MsgsI (w : World) (lo : Nat) (v : Value) (n : Nat) (M : Nat → ZM) : Prop :=
  ∃ (ao : Option Addr) (b o cap : Nat), v = .slice ao n cap ∧ ∀ j, j < n → ao = some ⟨b, o, none⟩ ∧ lo ≤ b ∧ w.rangeAt b (o + j * 11) (M j).cells

theorem rangeAt_lt {w : World} {b o : Nat} {z : ZM} (h : w.rangeAt b o z.cells) : b < w.heap.size :=
  World.block_lt_of_cell? _ _ (h 0 _ rfl)

theorem rangeAt_block {w w' : World} {b o : Nat} {cs : List Value} (h : w.rangeAt b o cs) (e : w'.heap[b]? = w.heap[b]?) : w'.rangeAt b o cs := by
  intro j v hv
  rw [World.cell?_of_block (w := w) (a := ⟨b, o + j, none⟩) e]
  exact h j v hv

theorem IntsI.since {w w' : World} {lo : Nat} {v : Value} {n : Nat} {X : Nat → Int} (h : IntsI w lo v n X) (s : w.Since w.heap.size w') : IntsI w' lo v n X := by
  obtain ⟨ao, b, o, cap, hv, hc⟩ := h
  refine ⟨ao, b, o, cap, hv, fun j hj => ⟨(hc j hj).1, (hc j hj).2.1, ?_⟩⟩
  rw [s.cell (a := ⟨b, o + j, none⟩) (World.block_lt_of_cell? _ _ (hc j hj).2.2)]
  exact (hc j hj).2.2

theorem MsgsI.since {w w' : World} {lo : Nat} {v : Value} {n : Nat} {M : Nat → ZM} (h : MsgsI w lo v n M) (s : w.Since w.heap.size w') : MsgsI w' lo v n M := by
  obtain ⟨ao, b, o, cap, hv, hc⟩ := h
  refine ⟨ao, b, o, cap, hv, fun j hj => ⟨(hc j hj).1, (hc j hj).2.1, ?_⟩⟩
  exact rangeAt_block (hc j hj).2.2 (s.block _ (rangeAt_lt (hc j hj).2.2))

theorem IntsI.low {w : World} {lo lo' : Nat} {v : Value} {n : Nat} {X : Nat → Int} (h : IntsI w lo v n X) (hl : lo' ≤ lo) : IntsI w lo' v n X := by
  obtain ⟨ao, b, o, cap, hv, hc⟩ := h
  exact ⟨ao, b, o, cap, hv, fun j hj => ⟨(hc j hj).1, by have := (hc j hj).2.1; omega, (hc j hj).2.2⟩⟩

theorem MsgsI.low {w : World} {lo lo' : Nat} {v : Value} {n : Nat} {M : Nat → ZM} (h : MsgsI w lo v n M) (hl : lo' ≤ lo) : MsgsI w lo' v n M := by
  obtain ⟨ao, b, o, cap, hv, hc⟩ := h
  exact ⟨ao, b, o, cap, hv, fun j hj => ⟨(hc j hj).1, by have := (hc j hj).2.1; omega, (hc j hj).2.2⟩⟩

/-- A returned slice of n elements, of which Q tells. -/
def RetS (n : Nat) (Q : Option Addr → Nat → Prop) (e : Ending) : Prop := ∃ ao cap, e = .returned (.slice ao n cap) ∧ Q ao cap

theorem since_drewN {B : Nat} {a w : World} (h : a.Since B w) (n : Nat) : a.Since B (w.drewN n) := h.trans ⟨rfl, rfl, rfl, Nat.le_refl _, fun _ _ => rfl⟩
theorem since_le {B B' : Nat} {w w' : World} (h : w.Since B w') (hb : B' ≤ B) : w.Since B' w' := ⟨h.os, h.tape, h.output, h.size, fun k hk => h.block k (by omega)⟩

/-- A fact laid out of the walk's sight. -/
def Hid (P : Prop) : Prop := P
theorem Hid.out {P : Prop} (h : Hid P) : P := h

/-! ### the plain functions -/
/-- Is a among the first n? -/
def has : Nat → (Nat → Int) → Int → Bool
  | 0, _, _ => false
  | n + 1, X, a => has n X a || X n == a

theorem has_iff (X : Nat → Int) (a : Int) : ∀ n, has n X a = true ↔ ∃ i, i < n ∧ X i = a
  | 0 => by simp [has]
  | n + 1 => by
    rw [has, Bool.or_eq_true, has_iff X a n, beq_iff_eq]
    constructor
    · rintro (⟨i, hi, e⟩ | e)
      · exact ⟨i, by omega, e⟩
      · exact ⟨n, by omega, e⟩
    · rintro ⟨i, hi, e⟩
      by_cases h : i = n
      · subst h; exact .inr e
      · exact .inl ⟨i, by omega, e⟩

/-- How many of the first n fulfil p? -/
def cnt : Nat → (Nat → Bool) → Nat
  | 0, _ => 0
  | n + 1, p => cnt n p + if p n then 1 else 0

theorem cnt_le (p : Nat → Bool) : ∀ n, cnt n p ≤ n
  | 0 => Nat.le_refl _
  | n + 1 => by have := cnt_le p n; rw [cnt]; split <;> omega

theorem cnt_congr {p q : Nat → Bool} : ∀ n, (∀ i, i < n → p i = q i) → cnt n p = cnt n q
  | 0, _ => rfl
  | n + 1, h => by rw [cnt, cnt, cnt_congr n (fun i hi => h i (by omega)), h n (by omega)]

theorem cnt_zero {p : Nat → Bool} : ∀ n, (∀ i, i < n → p i = false) → cnt n p = 0
  | 0, _ => rfl
  | n + 1, h => by rw [cnt, cnt_zero n (fun i hi => h i (by omega)), h n (by omega)]; rfl

/-- Is the message an acceptance from a under the ballot (r, d)? -/
def is4 (z : ZM) (a r d : Int) : Bool := z.ty == 4 && z.fr == a && z.br == r && z.bn == d

/-- Is one of the first j messages such? -/
def hit (M : Nat → ZM) : Nat → Int → Int → Int → Bool
  | 0, _, _, _ => false
  | j + 1, a, r, d => hit M j a r d || is4 (M j) a r d

/-- How many places of the acceptors' list have accepted (r, d) within the first j messages. -/
def wt (n : Nat) (X : Nat → Int) (M : Nat → ZM) (j : Nat) (r d : Int) : Nat := cnt n fun i => hit M j (X i) r d
end Go.Proofs.Qxb6601152a
