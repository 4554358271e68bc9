import Derived.Test.Qxb6601152aMap
namespace Go.Proofs.Qxb6601152a
open Go.RowKit Go.Deep

theorem nil45 (w : World) (m : Option Nat) : (binOp .eql 45 (.map m) (.map none)).run Try.prog w = .ok (.bool m.isNone) w := by
  cases m <;> kernel_rfl

def box (z : ZM) : Obj := .cells #[.int .u8 z.ty, .int .u64 z.fr, .int .u64 z.tt, .int .u64 z.br, .int .u64 z.bn, .string z.vl, .int .u64 z.pr, .int .u64 z.pn, .string z.pv, .int .u64 z.qr, .int .u64 z.qn] 42

theorem since_box (w : World) (o : Obj) (n : Nat) : w.Since w.heap.size ((w.alloc o).drewN n) := since_drewN ((World.Since.refl _ _).alloc (Nat.le_refl _) _) n

theorem stepA1 (lb : Nat) (z : ZM) (w : World) (h4 : z.ty ≠ 4) :
    Calls Try.prog 12 #[.pointer (some ⟨lb, 0, none⟩), .agg z.cells.toArray] w fun e w' => e = .returned (.bool false) ∧ w.Since w.heap.size w' := by
  have hb : (z.ty != 4) = true := by simpa using h4
  unfold ZM.cells
  go_enter Try.func12, Try.ntmps12
  go_wp2_with fail
  go_quiet (fail)
  go_wp2
  go_ret
  exact ⟨rfl, since_box _ _ _⟩

theorem stepA2 (lb : Nat) (z : ZM) (w : World) (h4 : z.ty = 4) (c1 : w.cell? ⟨lb, 1, none⟩ = some (.map none)) :
    Calls Try.prog 12 #[.pointer (some ⟨lb, 0, none⟩), .agg z.cells.toArray] w fun e w' => e = .returned (.bool false) ∧ w.Since w.heap.size w' := by
  have hb : (z.ty != 4) = false := by simpa using h4
  have hnil := nil45
  have hlt := World.block_lt_of_cell? _ _ c1
  unfold ZM.cells
  go_enter Try.func12, Try.ntmps12
  go_wp2_with fail
  go_quiet (fail)
  go_wp2
  go_ret
  exact ⟨rfl, since_box _ _ _⟩

theorem stepA3 (lb mb : Nat) (av : Value) (n : Nat) (X : Nat → Int) (z : ZM) (w : World) (hn : n ≤ 1048576) (h4 : z.ty = 4) (c0 : w.cell? ⟨lb, 0, none⟩ = some av) (c1 : w.cell? ⟨lb, 1, none⟩ = some (.map (some mb)))
    (hA : IntsI w 0 av n X) (hno : has n X z.fr = false) :
    Calls Try.prog 12 #[.pointer (some ⟨lb, 0, none⟩), .agg z.cells.toArray] w fun e w' => e = .returned (.bool false) ∧ w.Since w.heap.size w' := by
  have hb : (z.ty != 4) = false := by simpa using h4
  have hnil := nil45
  have hlt := World.block_lt_of_cell? _ _ c1
  have HC : Hid (∀ w', w.Since w.heap.size w' → Calls Try.prog 16 #[av, .int .u64 z.fr] w' fun e w'' => e = .returned (.bool (has n X z.fr)) ∧ w'' = w') := fun w' hs => contains av n X z.fr w' hn (hA.since hs)
  rw [hno] at HC
  obtain ⟨ao, b, o, cap, rfl, _⟩ := hA
  unfold ZM.cells
  go_enter Try.func12, Try.ntmps12
  go_wp2_with fail
  go_quiet (exact Calls.quiet_of_same (HC.out _ (since_box _ _ _)))
  go_wp2
  go_ret
  exact ⟨rfl, since_box _ _ _⟩
end Go.Proofs.Qxb6601152a
