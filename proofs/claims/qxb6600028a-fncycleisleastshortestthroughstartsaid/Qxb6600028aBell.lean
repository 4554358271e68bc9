import Derived.Test.Qxb6600028aCycA
namespace Go.Proofs.Qxb6600028a
open Go.RowKit Go.Deep

/-- The relaxation, round k, at the head of place u. -/
structure BF (g : Gr) (s : Nat) (D : Nat → Int) (k u b : Nat) (B : Nat → Int) : Prop where
  real : ∀ v, v < g.n → B v = -1 ∨ ∃ t : Nat, B v = t ∧ Wk g t v s
  ex : ∀ v, v < g.n → ∀ d : Nat, D v = d → d ≤ k → B v = d
  ex1 : ∀ v, v < u → v < g.n → ∀ d : Nat, D v = d → d ≤ k + 1 → B v = d
  bd : ∀ v, v < g.n → B v ≤ b
/-- Inside place u's row. -/
structure BI (g : Gr) (s : Nat) (D : Nat → Int) (k u j b : Nat) (B : Nat → Int) : Prop where
  bf : BF g s D k u b B
  row : ∀ i, i < j → ∀ d : Nat, D (g.Z u i) = d → d ≤ k → 0 ≤ B u ∧ B u ≤ d + 1

section
variable {g : Gr} {s : Nat} {D : Nat → Int} {k u j b : Nat} {B : Nat → Int}
theorem BF.start (hD : ToS g s D) : BF g s D 0 0 0 (upd (fun _ => -1) s 0) := by
  refine ⟨fun v _ => ?_, fun v hv d hd hk => ?_, fun v hv => by omega, fun v _ => ?_⟩
  · by_cases e : v = s
    · rw [e, upd_same]; exact Or.inr ⟨0, rfl, rfl⟩
    · rw [upd_ne _ _ _ e]; exact Or.inl rfl
  · obtain rfl : d = 0 := by omega
    rcases hD v hv with ⟨h, _⟩ | ⟨t, h, hw, _⟩
    · omega
    · obtain rfl : t = 0 := by omega
      have e : v = s := hw
      rw [e, upd_same]; rfl
  · by_cases e : v = s
    · rw [e, upd_same]; simp
    · rw [upd_ne _ _ _ e]; omega
theorem BF.enter (h : BF g s D k u b B) : BI g s D k u 0 b B := ⟨h, fun i hi => by omega⟩
theorem BF.more (h : BF g s D k u b B) {c : Nat} (hc : b ≤ c) : BF g s D k u c B := ⟨h.real, h.ex, h.ex1, fun v hv => by have := h.bd v hv; omega⟩

/-- No value lies below the distance. -/
theorem BF.ge (h : BF g s D k u b B) (hD : ToS g s D) {v : Nat} (hv : v < g.n) (h0 : 0 ≤ B v) : 0 ≤ D v ∧ D v ≤ B v := by
  rcases h.real v hv with e | ⟨t, e, hw⟩
  · omega
  · rcases hD v hv with ⟨_, hno⟩ | ⟨d, hd, _, hm⟩
    · exact absurd hw (hno t)
    · have := hm t hw
      omega

theorem BI.step (h : BI g s D k u j b B) (ok : GOk g) (hD : ToS g s D) (hu : u < g.n) (hj : j < g.L u) (h0 : 0 ≤ B (g.Z u j)) (hc : B u < 0 ∨ B (g.Z u j) + 1 < B u) :
    BI g s D k u (j + 1) (b + 1) (upd B u (B (g.Z u j) + 1)) := by
  have hr := ok.rng u hu j hj
  have hx : g.Z u j < g.n := hr.1
  obtain ⟨t, ht, hw⟩ : ∃ t : Nat, B (g.Z u j) = t ∧ Wk g t (g.Z u j) s := by
    rcases h.bf.real _ hx with e | e
    · omega
    · exact e
  have hwu : Wk g (t + 1) u s := ⟨_, ⟨j, hj, rfl⟩, hw⟩
  have hDu : ∃ d : Nat, D u = d ∧ d ≤ t + 1 := by
    rcases hD u hu with ⟨_, hno⟩ | ⟨d, hd, _, hm⟩
    · exact absurd hwu (hno _)
    · exact ⟨d, hd, hm _ hwu⟩
  obtain ⟨du, hdu, hdt⟩ := hDu
  have hne : ∀ d : Nat, D u = d → ¬ d ≤ k := fun d hd hk => by
    have := h.bf.ex u hu d hd hk
    omega
  refine ⟨⟨fun v hv => ?_, fun v hv d hd hk => ?_, fun v hvu hv d hd hk => ?_, fun v hv => ?_⟩, fun i hi d hd hk => ?_⟩
  · by_cases e : v = u
    · rw [e, upd_same]; exact Or.inr ⟨t + 1, by rw [ht]; omega, hwu⟩
    · rw [upd_ne _ _ _ e]; exact h.bf.real v hv
  · by_cases e : v = u
    · rw [e] at hd; exact absurd hk (hne d hd)
    · rw [upd_ne _ _ _ e]; exact h.bf.ex v hv d hd hk
  · rw [upd_ne _ _ _ (by omega)]; exact h.bf.ex1 v hvu hv d hd hk
  · by_cases e : v = u
    · rw [e, upd_same]; have := h.bf.bd _ hx; omega
    · rw [upd_ne _ _ _ e]; have := h.bf.bd v hv; omega
  · rw [upd_same]
    refine ⟨by omega, ?_⟩
    by_cases e : i = j
    · rw [e] at hd
      have := h.bf.ex _ hx d hd hk
      omega
    · have := h.row i (by omega) d hd hk
      omega

theorem BI.skip (h : BI g s D k u j b B) (ok : GOk g) (hu : u < g.n) (hj : j < g.L u) (hc : ¬ (0 ≤ B (g.Z u j) ∧ (B u < 0 ∨ B (g.Z u j) + 1 < B u))) : BI g s D k u (j + 1) (b + 1) B := by
  refine ⟨h.bf.more (by omega), fun i hi d hd hk => ?_⟩
  by_cases e : i = j
  · rw [e] at hd
    have hx := (ok.rng u hu j hj).1
    have := h.bf.ex _ hx d hd hk
    omega
  · exact h.row i (by omega) d hd hk

theorem BI.done (h : BI g s D k u (g.L u) b B) (ok : GOk g) (hD : ToS g s D) (hu : u < g.n) : BF g s D k (u + 1) b B := by
  refine ⟨h.bf.real, h.bf.ex, fun v hvu hv d hd hk => ?_, h.bf.bd⟩
  by_cases e : v = u
  · subst e
    match d, hd, hk with
    | 0, hd, _ => exact h.bf.ex v hv 0 hd (by omega)
    | d + 1, hd, hk =>
      obtain ⟨i, hi, hdi⟩ := next_of ok hD hv hd
      have h1 := h.row i hi d hdi (by omega)
      have h2 := h.bf.ge hD hv h1.1
      omega
  · exact h.bf.ex1 v (by omega) hv d hd hk

theorem BF.next (h : BF g s D k g.n b B) : BF g s D (k + 1) 0 b B := ⟨h.real, fun v hv d hd hk => h.ex1 v hv hv d hd hk, fun v hv => by omega, h.bd⟩

/-- No successor of the start gets back too soon. -/
theorem BF.first {len : Nat} (h : BF g s D k u b B) (ok : GOk g) (hs : s < g.n) (hg : Girth g s len) {j : Nat} (hj : j < g.L s) (h0 : 0 ≤ B (g.Z s j)) : ¬ B (g.Z s j) < (len : Int) - 1 := by
  intro hlt
  rcases h.real _ (ok.rng s hs j hj).1 with e | ⟨t, e, hw⟩
  · omega
  · have := hg.least (t + 1) (by omega) ⟨_, ⟨j, hj, rfl⟩, hw⟩
    omega

/-- No lower successor closes the cycle in time. -/
theorem BF.lower {len : Nat} {A : Nat → Nat} (h : BF g s D k u b B) (ok : GOk g) (_hs : s < g.n) (hD : ToS g s D) (hg : Girth g s len) (hA : CycA g s D len A) {i : Nat} (hi : i + 1 < len) {j : Nat} (hj : j < g.L (A i)) (hlt : g.Z (A i) j < A (i + 1)) (h0 : 0 ≤ B (g.Z (A i) j)) : ¬ B (g.Z (A i) j) ≤ (len : Int) - (i + 1) := by
  intro hle
  have hAi := hA.lt i (by omega)
  have hx := (ok.rng (A i) hAi j hj).1
  have hge := h.ge hD hx h0
  obtain ⟨j0, hj0, hz0, hno⟩ := hA.fst i hi
  have hjj : j < j0 := by
    rcases Nat.lt_or_ge j j0 with h | h
    · exact h
    · exfalso
      have : ∀ d, j0 + d < g.L (A i) → g.Z (A i) j0 ≤ g.Z (A i) (j0 + d) := by
        intro d
        induction d with
        | zero => intro _; exact Nat.le_refl _
        | succ d ih =>
          intro hd
          have h1 := ih (by omega)
          have h2 := ok.row (A i) hAi (j0 + d) (by omega)
          have h3 : j0 + d + 1 = j0 + (d + 1) := by omega
          rw [h3] at h2
          omega
      have h4 := this (j - j0) (by omega)
      rw [show j0 + (j - j0) = j by omega, hz0] at h4
      omega
  have hne := hno j hjj
  obtain ⟨t, ht, hw⟩ : ∃ t : Nat, D (g.Z (A i) j) = t ∧ Wk g t (g.Z (A i) j) s := by
    rcases hD _ hx with ⟨e, _⟩ | ⟨t, e, hw, _⟩
    · omega
    · exact ⟨t, e, hw⟩
  have hwi : Wk g (t + 1) (A i) s := ⟨_, ⟨j, hj, rfl⟩, hw⟩
  match i, hi, hwi, hle, hne, hAi with
  | 0, hi, hwi, hle, hne, _ =>
    rw [hA.hd] at hwi
    have := hg.least (t + 1) (by omega) hwi
    omega
  | i + 1, hi, hwi, hle, hne, hAi =>
    have hd := hA.dist i (by omega)
    rcases hD _ hAi with ⟨e, _⟩ | ⟨d, e, _, hm⟩
    · omega
    · have := hm (t + 1) hwi
      omega
end
end Go.Proofs.Qxb6600028a
