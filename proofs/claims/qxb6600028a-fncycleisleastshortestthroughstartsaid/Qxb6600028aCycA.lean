import Derived.Test.Qxb6600028aLawBase
import Derived.Test.Qxb6600028aCycWalk
import Derived.Test.Qxb6600028aLook
namespace Go.Proofs.Qxb6600028a
open Go.RowKit Go.Deep

theorem LowSpec.uniq {g : Gr} {l l' : Int} (h : LowSpec g l) (h' : LowSpec g l') : l = l' := by
  rcases h with ⟨e, h⟩ | ⟨m, e, hm, hc, hl⟩ <;> rcases h' with ⟨e', h'⟩ | ⟨m', e', hm', hc', hl'⟩
  · rw [e, e']
  · exact absurd hc' (h _ hm')
  · exact absurd hc (h' _ hm)
  · have := hl m' hm' hc'
    have := hl' m hm hc
    omega

/-- The cycle's places as a function of the step. -/
structure CycA (g : Gr) (s : Nat) (D : Nat → Int) (len : Nat) (A : Nat → Nat) : Prop where
  hd : A 0 = s
  two : 2 ≤ len
  le : len ≤ g.n
  lt : ∀ i, i < len → A i < g.n
  inj : ∀ i j, i < len → j < len → A i = A j → i = j
  low : ∀ i, i < len → s ≤ A i
  arc : ∀ i, i + 1 < len → Edge g (A i) (A (i + 1))
  cl : Edge g (A (len - 1)) s
  dist : ∀ i, i + 1 < len → D (A (i + 1)) = (len : Int) - (i + 1)
  fst : ∀ i, i + 1 < len → ∃ j, j < g.L (A i) ∧ g.Z (A i) j = A (i + 1) ∧ ∀ j', j' < j → D (g.Z (A i) j') ≠ (len : Int) - (i + 1)

theorem RetC.out {g : Gr} (ok : GOk g) {X : Nat → Int} {l l' : Int} {w' : World} {e : Ending} (h : LowSpec g l) (h' : LowSpec g l') (hr : RetC g X l' w' e) :
    (l = -1 ∧ e = .returned (.slice none 0 0)) ∨ ∃ (s : Nat) (D : Nat → Int) (len : Nat) (A : Nat → Nat) (gc cap : Nat), l = s ∧ s < g.n ∧ OnC g s ∧ e = .returned (.slice (some ⟨gc, 0, none⟩) len cap) ∧
      ToS g s D ∧ Girth g s len ∧ CycA g s D len A ∧ ∀ i, i < len → w'.cell? ⟨gc, i, none⟩ = some (.int .i64 (X (A i))) := by
  have e0 := h.uniq h'
  subst e0
  rcases hr with ⟨h1, h2⟩ | ⟨s, D, len, pl, gc, cap, h1, h2, hc⟩
  · exact Or.inl ⟨h1, h2⟩
  · refine Or.inr ?_
    rcases h with ⟨e1, _⟩ | ⟨s', e1, hs, hon, hlow⟩
    · omega
    obtain rfl : s' = s := by omega
    have h2' := hc.gir.two ok hs
    have hA : ∀ i, i < len → pl[i]? = some (pl.getD i 0) := fun i hi => by
      have hi' : i < pl.length := by rw [hc.all]; exact hi
      rw [List.getD_eq_getElem?_getD, List.getElem?_eq_getElem hi']
      rfl
    have ha0 : pl.getD 0 0 = s' := by
      have := hA 0 (by omega)
      rw [hc.cyc.hd] at this
      exact (Option.some.inj this).symm
    refine ⟨s', D, len, fun i => pl.getD i 0, gc, cap, h1, hs, hon, h2, hc.tos, hc.gir, ⟨ha0, h2', ?_, fun i hi => (hc.cyc.at_lt (hA i hi)).2, fun i j hi hj he => ?_, fun i hi => hlow _ (hc.cyc.at_lt (hA i hi)).2 (hc.cyc.onC hc.tos hon (hA i hi)), fun i hi => ?_, ?_, fun i hi => (hc.cyc.st i _ _ (hA i (by omega)) (hA (i + 1) hi)).1, fun i hi => (hc.cyc.st i _ _ (hA i (by omega)) (hA (i + 1) hi)).2⟩, fun i hi => hc.cell i _ (hA i hi)⟩
    · have := hc.cyc.len_le hs hc.tos
      rw [hc.all] at this
      exact this
    · have h3 := hA j hj
      have h4 := hA i hi
      rw [show pl.getD j 0 = pl.getD i 0 from he.symm] at h3
      exact hc.cyc.inj hs hc.tos h4 h3
    · obtain ⟨_, j, hj, hz, _⟩ := hc.cyc.st i _ _ (hA i (by omega)) (hA (i + 1) hi)
      exact ⟨j, hj, hz⟩
    · exact hc.cyc.close ok hc.tos hc.all h2' (hA (len - 1) (by omega))

theorem asc_all {n : Nat} {X : Nat → Int} (h : ∀ i, i + 1 < n → X i < X (i + 1)) : ∀ i j, i < j → j < n → X i < X j := by
  intro i j hij hj
  induction j with
  | zero => omega
  | succ j ih =>
    have h1 := h j hj
    by_cases e : i = j
    · rw [e]; exact h1
    · have := ih (by omega) (by omega)
      omega

/-- A row's header and entries in a world. -/
theorem RowsI.out {w : World} {ra : Option Addr} {m rc : Nat} {L : Nat → Nat} {Z : Nat → Nat → Nat} (h : RowsI w (.slice ra m rc) m L (fun u j => (Z u j : Int))) :
    ∃ (sb s0 : Nat) (R : Nat → Option Addr) (C rb ro : Nat → Nat), ∀ u, u < m → ra = some ⟨sb, s0, none⟩ ∧ w.cell? ⟨sb, s0 + u, none⟩ = some (.slice (R u) (L u) (C u)) ∧
      ∀ j, j < L u → R u = some ⟨rb u, ro u, none⟩ ∧ w.cell? ⟨rb u, ro u + j, none⟩ = some (.int .i64 (Z u j)) := by
  obtain ⟨ao, b, o, cap, R, C, rb, ro, hv, hc⟩ := h
  simp only [Value.slice.injEq, true_and] at hv
  obtain ⟨rfl, rfl⟩ := hv
  exact ⟨b, o, R, C, rb, ro, hc⟩
theorem IntsI.out {w : World} {na : Option Addr} {m nc : Nat} {X : Nat → Int} (h : IntsI w 0 (.slice na m nc) m X) :
    ∃ (nb no : Nat), ∀ j, j < m → na = some ⟨nb, no, none⟩ ∧ w.cell? ⟨nb, no + j, none⟩ = some (.int .i64 (X j)) := by
  obtain ⟨ao, b, o, cap, hv, hc⟩ := h
  simp only [Value.slice.injEq, true_and] at hv
  obtain ⟨rfl, rfl⟩ := hv
  exact ⟨b, o, fun j hj => ⟨(hc j hj).1, (hc j hj).2.2⟩⟩
end Go.Proofs.Qxb6600028a
