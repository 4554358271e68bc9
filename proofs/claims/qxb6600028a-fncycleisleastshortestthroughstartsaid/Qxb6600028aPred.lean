import Derived.Test.Qxb6600028aKahnMem
import Derived.Test.Qxb6600028aLowest
import Derived.Test.Qxb6600028aCyc
import Derived.Deep.AppendLies
namespace Go.Proofs.Qxb6600028a
open Go.RowKit Go.Deep

/-! ### The rows of predecessors, plain -/

def PredI (g : Gr) (u j : Nat) (pl : Nat → List Nat) : Prop :=
  ∀ v, v < g.n → (∀ x, x ∈ pl v ↔ (x < u ∧ Edge g x v) ∨ (x = u ∧ ∃ i, i < j ∧ g.Z u i = v)) ∧ (pl v).length = degAt g u j v

theorem PredI.start (g : Gr) : PredI g 0 0 (fun _ => []) := fun v _ => ⟨fun x => by simp, rfl⟩
theorem PredI.row {g : Gr} {u : Nat} {pl : Nat → List Nat} (h : PredI g u (g.L u) pl) : PredI g (u + 1) 0 pl := fun v hv => by
  obtain ⟨h1, h2⟩ := h v hv
  refine ⟨fun x => ?_, by rw [h2, degAt_row]⟩
  rw [h1 x]
  constructor
  · rintro (⟨a, b⟩ | ⟨rfl, i, hi, hz⟩)
    · exact Or.inl ⟨by omega, b⟩
    · exact Or.inl ⟨by omega, i, hi, hz⟩
  · rintro (⟨a, b⟩ | ⟨_, i, hi, _⟩)
    · by_cases e : x = u
      · subst e; exact Or.inr ⟨rfl, b⟩
      · exact Or.inl ⟨by omega, b⟩
    · omega
theorem PredI.arc {g : Gr} {u j : Nat} {pl : Nat → List Nat} (h : PredI g u j pl) {x : Nat} (hz : g.Z u j = x) : PredI g u (j + 1) (upd pl x (pl x ++ [u])) := fun v hv => by
  obtain ⟨h1, h2⟩ := h v hv
  by_cases e : v = x
  · subst e
    rw [upd_same]
    refine ⟨fun y => ?_, ?_⟩
    · rw [List.mem_append, h1 y]
      simp only [List.mem_cons, List.not_mem_nil, or_false]
      constructor
      · rintro ((a | ⟨rfl, i, hi, hz'⟩) | rfl)
        · exact Or.inl a
        · exact Or.inr ⟨rfl, i, by omega, hz'⟩
        · exact Or.inr ⟨rfl, j, by omega, hz⟩
      · rintro (a | ⟨rfl, i, hi, hz'⟩)
        · exact Or.inl (Or.inl a)
        · exact Or.inr rfl
    · rw [List.length_append, h2, degAt_arc g u j v v hz, if_pos rfl]; rfl
  · rw [upd_ne _ _ _ e]
    refine ⟨fun y => ?_, by rw [h2, degAt_arc g u j x v hz, if_neg e]⟩
    rw [h1 y]
    constructor
    · rintro (a | ⟨rfl, i, hi, hz'⟩)
      · exact Or.inl a
      · exact Or.inr ⟨rfl, i, by omega, hz'⟩
    · rintro (a | ⟨rfl, i, hi, hz'⟩)
      · exact Or.inl a
      · refine Or.inr ⟨rfl, i, ?_, hz'⟩
        by_cases e' : i = j
        · subst e'; exact absurd (hz'.symm.trans hz) e
        · omega

/-! ### Their memory: a row of slices, each in a block of its own -/

structure PM (wb wr : World) (n : Nat) (PV : Nat → Value) (pl : Nat → List Nat) : Prop where
  since : wb.Since wb.heap.size wr
  top : wr.rowIs wb.heap.size 22 n PV
  own : ∀ v, v < n → wr.ownsRow (wb.heap.size + 1) 3 1 (PV v) (pl v).length (fvals (pl v))
  far : ∀ u v k, u < n → v < n → u ≠ v → (PV u).ownBlock = some k → (PV v).ownBlock ≠ some k

theorem PM.start (wb : World) (n : Nat) : PM wb (wb.alloc (.cells (madeCells #[.slice none 0 0] n) 22)) n (fun _ => .slice none 0 0) (fun _ => []) :=
  ⟨(World.Since.refl _ _).alloc (Nat.le_refl _) _, World.rowIs_made wb _ n 22, fun _ _ => World.ownsRow_nil _ _ _ _, fun u v k _ _ _ h => by simp [Value.ownBlock] at h⟩

theorem PM.alloc {wb wr : World} {n : Nat} {PV : Nat → Value} {pl : Nat → List Nat} (h : PM wb wr n PV pl) (o : Obj) : PM wb (wr.alloc o) n PV pl :=
  ⟨h.since.alloc h.since.size _, h.top.alloc _, fun v hv => (h.own v hv).alloc _, h.far⟩

/-- 'pred[x] = append(pred[x], u)'. -/
theorem PM.app {wb wr : World} {n : Nat} {PV : Nat → Value} {pl : Nat → List Nat} (h : PM wb wr n PV pl) {x u g cap : Nat} (hx : x < n) {w1 : World}
    (hown : w1.ownsRow (wb.heap.size + 1) 3 1 (.slice (some ⟨g, 0, none⟩) ((pl x).length + 1) cap) ((pl x).length + 1) (fvals (pl x) ++ [.int .i64 u])) (hg : wr.grownBy w1 (PV x).ownBlock) (hat : (PV x).ownBlock = some g ∨ g = wr.heap.size) :
    PM wb (w1.setCell ⟨wb.heap.size, x, none⟩ (.slice (some ⟨g, 0, none⟩) ((pl x).length + 1) cap)) n (upd PV x (.slice (some ⟨g, 0, none⟩) ((pl x).length + 1) cap)) (upd pl x (pl x ++ [u])) := by
  have hlt := h.top.lt
  have hxb : ∀ k, (PV x).ownBlock = some k → wb.heap.size + 1 ≤ k := fun k e => (ownsRow_block (h.own x hx) e).1
  have hgb : wb.heap.size + 1 ≤ g := by
    rcases hat with hat | hat
    · exact hxb g hat
    · omega
  refine ⟨(h.since.grown hg h.since.size (fun k e => by have := hxb k e; omega)).setCell (Nat.le_refl _) _, ?_, fun v hv => ?_, fun a b k ha hb hab hk => ?_⟩
  · exact ((h.top.of_block (hg.block _ hlt (fun e => by have := hxb _ e.symm; omega))).set x _).congr (fun j _ => by unfold upd; rfl)
  · by_cases e : v = x
    · subst e
      rw [upd_same, upd_same, fvals_snoc, List.length_append]
      exact own_below hown (by show wb.heap.size < _; omega) _
    · rw [upd_ne _ _ _ e, upd_ne _ _ _ e]
      refine own_below (ownsRow_of_block (h.own v hv) (fun k hk => hg.block k (ownsRow_block (h.own v hv) hk).2.1 (fun e' => ?_))) (by show wb.heap.size < _; omega) _
      exact h.far x v k hx hv (fun e'' => e e''.symm) e'.symm hk
  · have hnew : ∀ v, v < n → v ≠ x → (PV v).ownBlock ≠ some g := fun v hv hvx e' => by
      rcases hat with hat | hat
      · exact h.far x v g hx hv (fun e'' => hvx e''.symm) hat e'
      · have := (ownsRow_block (h.own v hv) e').2.1; omega
    by_cases ea : a = x
    · subst ea
      rw [upd_same] at hk
      simp only [Value.ownBlock, Option.some.injEq] at hk
      rw [upd_ne _ _ _ (fun e' => hab e'.symm), ← hk]
      exact hnew b hb (fun e' => hab e'.symm)
    · rw [upd_ne _ _ _ ea] at hk
      by_cases eb : b = x
      · subst eb
        rw [upd_same]
        simp only [Value.ownBlock]
        intro e'
        simp only [Option.some.injEq] at e'
        rw [← e'] at hk
        exact hnew a ha ea hk
      · rw [upd_ne _ _ _ eb]
        exact h.far a b k ha hb hab hk

end Go.Proofs.Qxb6600028a
