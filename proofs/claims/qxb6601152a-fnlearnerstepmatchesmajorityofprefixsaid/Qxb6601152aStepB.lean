import Derived.Test.Qxb6601152aStepA
import Derived.Handy
namespace Go.Proofs.Qxb6601152a
open Go.RowKit Go.Deep

/-- The learner's five cells. -/
def lcell (av mv : Value) (r d : Int) (s : ByteArray) (i : Nat) : Value :=
  if i = 0 then av else if i = 1 then mv else if i = 2 then .int .u64 r else if i = 3 then .int .u64 d else .string s

def qv (g : Nat) (c : Value) : Value := .agg #[.slice (some ⟨g, 0, none⟩) 1 1, c]

/-- What a counted step leaves: the three ways. -/
def BPost (lb mb lo : Nat) (av : Value) (n : Nat) (X : Nat → Int) (z : ZM) (r0 d0 : Int) (s0 : ByteArray) (m : Nat) (F : Int → Int → Option Value) (c : Value) (cs : List Int) (w : World) (e : Ending) (w' : World) : Prop :=
  (z.fr ∈ cs ∧ e = .returned (.bool false) ∧ w.Since w.heap.size w') ∨
  (z.fr ∉ cs ∧ n < 2 * cnt n (fun i => has (cs ++ [z.fr]).length (fun j => (cs ++ [z.fr]).getD j 0) (X i)) ∧ e = .returned (.bool true) ∧ Kp w (fun b => b = lb ∨ some b = c.ownBlock) w' ∧ w'.rowIs lb 47 5 (lcell av (.map none) z.br z.bn z.vl)) ∨
  (z.fr ∉ cs ∧ ¬ n < 2 * cnt n (fun i => has (cs ++ [z.fr]).length (fun j => (cs ++ [z.fr]).getD j 0) (X i)) ∧ e = .returned (.bool false) ∧ Kp w (fun b => b = mb ∨ some b = c.ownBlock) w' ∧ w'.rowIs lb 47 5 (lcell av (.map (some mb)) r0 d0 s0) ∧
    ∃ g c', MapF w' mb (m + 1) (fun r d => if r = z.br ∧ d = z.bn then some (qv g c') else F r d) ∧ Own w' lo c' (cs ++ [z.fr]) ∧ lo ≤ g ∧ w'.rowIs g 22 1 (fun _ => av) ∧
      (c'.ownBlock = c.ownBlock ∨ ∃ x, c'.ownBlock = some x ∧ w.heap.size ≤ x))

theorem kp_obj {w w' : World} {qb lo : Nat} {c : Value} {cs : List Int} {x : Array Value} {f : Nat × Nat} (h : Kp w (fun b => b = qb ∨ some b = c.ownBlock) w') (ho : Own w lo c cs) (hq : w.heap[qb]? = some (.cells x 50 f)) {b : Nat} {o : Obj}
    (hb : w.heap[b]? = some o) (h5 : ∀ x f, o ≠ .cells x 50 f) (h3 : ∀ x f, o ≠ .cells x 30 f) : w'.heap[b]? = some o := by
  rw [h.block b (Array.getElem?_eq_some_iff.1 hb).1, hb]
  rintro (rfl | e)
  · rw [hq] at hb
    exact h5 _ _ (Option.some.inj hb).symm
  · obtain ⟨_, _, cur, hc⟩ := ho.lt e.symm
    rw [hc] at hb
    exact h3 _ _ (Option.some.inj hb).symm

theorem rowIs_obj {w : World} {b : Nat} {t : TypeId} {n : Nat} {f : Nat → Value} (h : w.rowIs b t n f) : ∃ x, w.heap[b]? = some (.cells x t (0, 0)) := by
  obtain ⟨c, hc, _⟩ := h
  exact ⟨c, hc⟩

theorem rowIs_since {w w' : World} {b : Nat} {t : TypeId} {n : Nat} {f : Nat → Value} (h : w.rowIs b t n f) (s : w.Since w.heap.size w') : w'.rowIs b t n f := h.of_block (s.block _ h.lt)

theorem cells_ne {t t' : TypeId} (h : t ≠ t') (y : Array Value) : ∀ x f, Obj.cells y t (0, 0) ≠ .cells x t' f := by
  intro x f e
  simp only [Obj.cells.injEq] at e
  exact h e.2.1

theorem newQuorum (a : Option Addr) (n c : Nat) (w : World) :
    Calls Try.prog 17 #[.slice a n c] w fun e w' => e = .returned (.agg #[.slice a n c, .slice none 0 0]) ∧ w.Since w.heap.size w' := by
  go_enter Try.func17, Try.ntmps17
  go_wp2
  go_returns
  exact ⟨rfl, (World.Since.refl _ _).alloc (Nat.le_refl _) _⟩
end Go.Proofs.Qxb6601152a
