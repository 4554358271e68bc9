import Derived.Test.Qxb6600028aMem
import Derived.Test.Qxb6600028aKahn
namespace Go.Proofs.Qxb6600028a
open Go.RowKit Go.Deep

/-- The cells of a slice of places, in its own order. -/
def fvals (Q : List Nat) : List Value := Q.map fun x : Nat => Value.int .i64 (x : Int)
theorem fvals_snoc (Q : List Nat) (x : Nat) : fvals (Q ++ [x]) = fvals Q ++ [Value.int .i64 (x : Int)] := by unfold fvals; rw [List.map_append]; rfl
theorem fvals_len (Q : List Nat) : (fvals Q).length = Q.length := by unfold fvals; simp

/-- 'make([]int, 0, n)'. -/
theorem make0 (n : Nat) (hn : n ≤ 1048576) (w : World) : (Instr.makeSlice 22 (.int .i64 0) (.int .i64 (n : Int))).run Try.prog w = .ok (.slice (some ⟨w.heap.size, 0, none⟩) 0 n) (w.alloc (.cells (madeCells #[.int .i64 0] n) 3)) := by
  obtain ⟨i3, hi3, hz30, hz31, hz32⟩ := info_parts Try.info3
  have := run_make (P := Try.prog) w 22 3 i3 (.int .i64 0) Try.underlying22 hi3 hz30 .i64 .i64 0 (n : Int) (by omega) (by omega) (by rw [hz32]; omega) (by omega)
  rw [hz31] at this
  rw [this, Int.toNat_natCast, Nat.mul_one]
  rfl

/-- A row of integers and a queue beside it. -/
structure KM1 (w wr : World) (n : Nat) (deg : Nat → Int) : Prop where
  since : w.Since w.heap.size wr
  dg : wr.rowIs w.heap.size 3 n (fun j => .int .i64 (deg j))

structure KM (w wr : World) (n : Nat) (deg : Nat → Int) (don : Nat → Bool) (Q : List Nat) (vQ : Value) : Prop where
  since : w.Since w.heap.size wr
  dg : wr.rowIs w.heap.size 3 n (fun j => .int .i64 (deg j))
  dn : wr.rowIs (w.heap.size + 1) 4 n (fun j => .bool (don j))
  qu : wr.ownsRow (w.heap.size + 2) 3 1 vQ Q.length (fvals Q)

section
variable {w wr : World} {n : Nat} {deg : Nat → Int} {don : Nat → Bool} {Q : List Nat} {vQ : Value}

theorem KM1.start (w : World) (n : Nat) : KM1 w (w.alloc (.cells (madeCells #[.int .i64 0] n) 3)) n (fun _ => 0) :=
  ⟨(World.Since.refl _ _).alloc (Nat.le_refl _) _, World.rowIs_made w _ n 3⟩
theorem KM1.set (h : KM1 w wr n deg) (x : Nat) (c : Int) : KM1 w (wr.setCell ⟨w.heap.size, x, none⟩ (.int .i64 c)) n (upd deg x c) :=
  ⟨h.since.setCell (Nat.le_refl _) _, (h.dg.set x _).congr (fun j _ => upd_congr (Value.int .i64) deg x c j)⟩
theorem KM1.congr (h : KM1 w wr n deg) {deg' : Nat → Int} (e : ∀ j, j < n → deg j = deg' j) : KM1 w wr n deg' := ⟨h.since, h.dg.congr (fun j hj => by rw [e j hj])⟩

theorem KM.start (h : KM1 w wr n deg) (hz : wr.heap.size = w.heap.size + 1) (hn : n ≤ 1048576) : KM w ((wr.alloc (.cells (madeCells #[.bool false] n) 4)).alloc (.cells (madeCells #[.int .i64 0] n) 3)) n deg (fun _ => false) [] (.slice (some ⟨w.heap.size + 1 + 1, 0, none⟩) 0 n) := by
  have h1 := World.rowIs_made wr (.bool false) n 4
  rw [hz] at h1
  refine ⟨(h.since.alloc (by omega) _).alloc (by rw [nblk_alloc]; omega) _, (h.dg.alloc _).alloc _, h1.alloc _, ?_⟩
  have := World.ownsRow_made (base := w.heap.size + 2) (e := 3) (size := 1) (wr.alloc (.cells (madeCells #[.bool false] n) 4)) (madeCells #[.int .i64 0] n) n (by rw [nblk_alloc]; omega) (by unfold maxLen; omega) (by rw [size_madeCells]; omega)
  rw [nblk_alloc, hz] at this
  exact this

theorem KM.setDg (h : KM w wr n deg don Q vQ) (x : Nat) (c : Int) : KM w (wr.setCell ⟨w.heap.size, x, none⟩ (.int .i64 c)) n (upd deg x c) don Q vQ :=
  ⟨h.since.setCell (Nat.le_refl _) _, (h.dg.set x _).congr (fun j _ => upd_congr (Value.int .i64) deg x c j), h.dn.setOther (by show w.heap.size + 1 ≠ w.heap.size; omega) _, own_below h.qu (by show w.heap.size < _; omega) _⟩
theorem KM.setDn (h : KM w wr n deg don Q vQ) (x : Nat) (c : Bool) : KM w (wr.setCell ⟨w.heap.size + 1, x, none⟩ (.bool c)) n deg (upd don x c) Q vQ :=
  ⟨h.since.setCell (by show w.heap.size ≤ w.heap.size + 1; omega) _, h.dg.setOther (by show w.heap.size ≠ w.heap.size + 1; omega) _, (h.dn.set x _).congr (fun j _ => upd_congr Value.bool don x c j), own_below h.qu (by show w.heap.size + 1 < _; omega) _⟩
theorem KM.congr (h : KM w wr n deg don Q vQ) {don' : Nat → Bool} (e : ∀ j, j < n → don j = don' j) : KM w wr n deg don' Q vQ := ⟨h.since, h.dg, h.dn.congr (fun j hj => by rw [e j hj]), h.qu⟩
theorem KM.alloc (h : KM w wr n deg don Q vQ) (o : Obj) : KM w (wr.alloc o) n deg don Q vQ := ⟨h.since.alloc h.since.size _, h.dg.alloc _, h.dn.alloc _, h.qu.alloc _⟩
theorem KM.app (h : KM w wr n deg don Q vQ) {w1 : World} {v' : Value} {z : Nat} (hown : w1.ownsRow (w.heap.size + 2) 3 1 v' (Q.length + 1) (fvals Q ++ [.int .i64 z])) (hg : wr.grownBy w1 vQ.ownBlock) : KM w w1 n deg don (Q ++ [z]) v' := by
  have hlt := h.dn.lt
  have hb : ∀ k, k < w.heap.size + 2 → w1.heap[k]? = wr.heap[k]? := fun k hk => hg.block k (by omega) (fun e => by
    have := (ownsRow_block h.qu e.symm).1
    omega)
  refine ⟨h.since.grown hg h.since.size (fun k e => by have := (ownsRow_block h.qu e).1; omega), h.dg.of_block (hb _ (by omega)), h.dn.of_block (hb _ (by omega)), ?_⟩
  rw [fvals_snoc, List.length_append]
  exact hown

/-- An element of the queue. -/
theorem own_at {base : Nat} {v : Value} (h : wr.ownsRow base 3 1 v Q.length (fvals Q)) {i : Nat} (hi : i < Q.length) :
    ∃ gq cap, v = .slice (some ⟨gq, 0, none⟩) Q.length cap ∧ wr.cell? ⟨gq, i, none⟩ = some (.int .i64 (Q[i] : Int)) := by
  rcases h.2 with ⟨_, h2⟩ | ⟨g, cap, cur, hv, hb, hh, hn, hm, hsz, htake⟩
  · omega
  · refine ⟨g, cap, hv, ?_⟩
    rw [hv] at h
    rw [h.cellAt i (by omega)]
    unfold fvals
    rw [List.getElem?_map, List.getElem?_eq_getElem hi]
    rfl
/-- Whatever an owned row of n elements is, it is a slice of length n. -/
theorem own_form {base e size : Nat} {v : Value} {m : Nat} {xs : List Value} (h : wr.ownsRow base e size v m xs) : ∃ ao cap, v = .slice ao m cap := by
  rcases h.2 with ⟨h', h0⟩ | ⟨g, cap, _, h', _⟩
  · exact ⟨_, _, by rw [h0]; exact h'⟩
  · exact ⟨_, _, h'⟩
end

end Go.Proofs.Qxb6600028a
