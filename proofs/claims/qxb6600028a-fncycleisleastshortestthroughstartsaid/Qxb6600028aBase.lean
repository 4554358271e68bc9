import Derived.Test.Qxb6600028aRows
import Derived.Test.Qxb6600028aGraph
import Derived.WalkKit
import Derived.WalkSpells
import Derived.WalkLawsBesides
import Derived.Deep.LoopGhost
import Derived.Deep.OwnRows
import Derived.Deep.Slices
import Derived.Deep.QuietTactic
import Derived.BigQuiet
namespace Go.Proofs.Qxb6600028a
open Go.RowKit Go.Deep
theorem Try.info3 : (Try.prog.info? 3).map (fun i => (i.zero, i.size, i.bytes)) = some (some (.int .i64 0), 1, 8) := by kernel_rfl
theorem Try.info22 : (Try.prog.info? 22).map (fun i => (i.zero, i.size, i.bytes)) = some (some (.slice none 0 0), 1, 24) := by kernel_rfl
theorem Try.info4 : (Try.prog.info? 4).map (fun i => (i.zero, i.size, i.bytes)) = some (some (.bool false), 1, 1) := by kernel_rfl
theorem nil22 (w : World) (a : Option Addr) (n c : Nat) : (binOp .eql 22 (.slice a n c) (.slice none 0 0)).run Try.prog w = .ok (.bool a.isNone) w := Lib.run_eql_slice_nil w 22 3 a n c 0 0 Try.underlying22
theorem nil23 (w : World) (a : Option Addr) (n c : Nat) : (binOp .eql 23 (.slice a n c) (.slice none 0 0)).run Try.prog w = .ok (.bool a.isNone) w := Lib.run_eql_slice_nil w 23 22 a n c 0 0 Try.underlying23

/-- The slice v reads as the n integers X, at block 'lo' or above. -/
def IntsI (w : World) (lo : Nat) (v : Value) (n : Nat) (X : Nat → Int) : Prop :=
  ∃ (ao : Option Addr) (b o cap : Nat), v = .slice ao n cap ∧ ∀ j, j < n → ao = some ⟨b, o, none⟩ ∧ lo ≤ b ∧ w.cell? ⟨b, o + j, none⟩ = some (.int .i64 (X j))

/-- The slice of slices v reads as n rows, row u of length L u with the entries Z u. -/
def RowsI (w : World) (v : Value) (n : Nat) (L : Nat → Nat) (Z : Nat → Nat → Int) : Prop :=
  ∃ (ao : Option Addr) (b o cap : Nat) (R : Nat → Option Addr) (C rb ro : Nat → Nat), v = .slice ao n cap ∧
    ∀ u, u < n → ao = some ⟨b, o, none⟩ ∧ w.cell? ⟨b, o + u, none⟩ = some (.slice (R u) (L u) (C u)) ∧
      ∀ j, j < L u → R u = some ⟨rb u, ro u, none⟩ ∧ w.cell? ⟨rb u, ro u + j, none⟩ = some (.int .i64 (Z u j))

theorem IntsI.since {w w' : World} {lo : Nat} {v : Value} {n : Nat} {X : Nat → Int} (h : IntsI w lo v n X) (s : w.Since w.heap.size w') : IntsI w' lo v n X := by
  obtain ⟨ao, b, o, cap, hv, hc⟩ := h
  refine ⟨ao, b, o, cap, hv, fun j hj => ⟨(hc j hj).1, (hc j hj).2.1, ?_⟩⟩
  rw [s.cell (a := ⟨b, o + j, none⟩) (World.block_lt_of_cell? _ _ (hc j hj).2.2)]
  exact (hc j hj).2.2

theorem IntsI.setCell {w : World} {lo : Nat} {v : Value} {n : Nat} {X : Nat → Int} (h : IntsI w lo v n X) {a : Addr} (ha : a.block < lo) (u : Value) : IntsI (w.setCell a u) lo v n X := by
  obtain ⟨ao, b, o, cap, hv, hc⟩ := h
  refine ⟨ao, b, o, cap, hv, fun j hj => ⟨(hc j hj).1, (hc j hj).2.1, ?_⟩⟩
  have h1 : (w.setCell a u).heap[b]? = w.heap[b]? := blk_setCell_other _ _ _ _ (by have := (hc j hj).2.1; omega)
  rw [World.cell?_of_block (w := w) (a := ⟨b, o + j, none⟩) h1]
  exact (hc j hj).2.2

theorem IntsI.low {w : World} {lo lo' : Nat} {v : Value} {n : Nat} {X : Nat → Int} (h : IntsI w lo v n X) (hl : lo' ≤ lo) : IntsI w lo' v n X := by
  obtain ⟨ao, b, o, cap, hv, hc⟩ := h
  exact ⟨ao, b, o, cap, hv, fun j hj => ⟨(hc j hj).1, by have := (hc j hj).2.1; omega, (hc j hj).2.2⟩⟩

theorem RowsI.since {w w' : World} {v : Value} {n : Nat} {L : Nat → Nat} {Z : Nat → Nat → Int} (h : RowsI w v n L Z) (s : w.Since w.heap.size w') : RowsI w' v n L Z := by
  obtain ⟨ao, b, o, cap, R, C, rb, ro, hv, hc⟩ := h
  refine ⟨ao, b, o, cap, R, C, rb, ro, hv, fun u hu => ⟨(hc u hu).1, ?_, fun j hj => ⟨((hc u hu).2.2 j hj).1, ?_⟩⟩⟩
  · rw [s.cell (a := ⟨b, o + u, none⟩) (World.block_lt_of_cell? _ _ (hc u hu).2.1)]
    exact (hc u hu).2.1
  · rw [s.cell (a := ⟨rb u, ro u + j, none⟩) (World.block_lt_of_cell? _ _ ((hc u hu).2.2 j hj).2)]
    exact ((hc u hu).2.2 j hj).2

/-- A returned Bool that, if true, tells P. -/
def RetB (P : Prop) (e : Ending) : Prop := ∃ b, e = .returned (.bool b) ∧ (b = true → P)
theorem RetB.no {P : Prop} : RetB P (.returned (.bool false)) := ⟨false, rfl, by simp⟩
theorem RetB.yes {P : Prop} (h : P) : RetB P (.returned (.bool true)) := ⟨true, rfl, fun _ => h⟩
/-- A returned slice of n elements, of which Q tells. -/
def RetS (n : Nat) (Q : Option Addr → Nat → Prop) (e : Ending) : Prop := ∃ ao cap, e = .returned (.slice ao n cap) ∧ Q ao cap

theorem since_drewN {B : Nat} {a w : World} (h : a.Since B w) (n : Nat) : a.Since B (w.drewN n) := h.trans ⟨rfl, rfl, rfl, Nat.le_refl _, fun _ _ => rfl⟩

end Go.Proofs.Qxb6600028a
