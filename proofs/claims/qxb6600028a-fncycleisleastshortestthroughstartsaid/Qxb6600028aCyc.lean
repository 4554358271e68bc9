/-
  PLAIN: what Cycle does with the distances. No Go in sight.
-/
import Derived.Test.Qxb6600028aBfs
namespace Go.Proofs.Qxb6600028a

/-- 'length' behind j of the start's arcs. -/
def lenTo (g : Gr) (D : Nat → Int) (s : Nat) : Nat → Int
  | 0 => -1
  | j + 1 => if 0 ≤ D (g.Z s j) ∧ (lenTo g D s j < 0 ∨ D (g.Z s j) + 1 < lenTo g D s j) then D (g.Z s j) + 1 else lenTo g D s j

theorem lenTo_spec (g : Gr) (D : Nat → Int) (s : Nat) : ∀ j, (lenTo g D s j = -1 ∧ ∀ i, i < j → D (g.Z s i) < 0) ∨
    ∃ i, i < j ∧ 0 ≤ D (g.Z s i) ∧ lenTo g D s j = D (g.Z s i) + 1 ∧ ∀ i', i' < j → 0 ≤ D (g.Z s i') → lenTo g D s j ≤ D (g.Z s i') + 1
  | 0 => Or.inl ⟨rfl, fun i hi => by omega⟩
  | j + 1 => by
    have ih := lenTo_spec g D s j
    unfold lenTo
    by_cases h0 : 0 ≤ D (g.Z s j)
    · rcases ih with ⟨h1, h2⟩ | ⟨i, hi, hi0, h1, h2⟩
      · rw [if_pos ⟨h0, Or.inl (by omega)⟩]
        refine Or.inr ⟨j, by omega, h0, rfl, fun i' hi' h' => ?_⟩
        by_cases e : i' = j
        · subst e; omega
        · have := h2 i' (by omega); omega
      · by_cases hlt : D (g.Z s j) + 1 < lenTo g D s j
        · rw [if_pos ⟨h0, Or.inr hlt⟩]
          refine Or.inr ⟨j, by omega, h0, rfl, fun i' hi' h' => ?_⟩
          by_cases e : i' = j
          · subst e; omega
          · have := h2 i' (by omega) h'; omega
        · rw [if_neg (by rintro ⟨_, h | h⟩ <;> omega)]
          refine Or.inr ⟨i, by omega, hi0, h1, fun i' hi' h' => ?_⟩
          by_cases e : i' = j
          · subst e; omega
          · exact h2 i' (by omega) h'
    · rw [if_neg (fun h => h0 h.1)]
      rcases ih with ⟨h1, h2⟩ | ⟨i, hi, hi0, h1, h2⟩
      · refine Or.inl ⟨h1, fun i hi => ?_⟩
        by_cases e : i = j
        · subst e; omega
        · exact h2 i (by omega)
      · refine Or.inr ⟨i, by omega, hi0, h1, fun i' hi' h' => ?_⟩
        by_cases e : i' = j
        · subst e; omega
        · exact h2 i' (by omega) h'

theorem lenTo_bound (g : Gr) (D : Nat → Int) (s : Nat) {B : Int} (hB : 0 ≤ B) (hD : ∀ i, D (g.Z s i) ≤ B) (j : Nat) : -1 ≤ lenTo g D s j ∧ lenTo g D s j ≤ B + 1 := by
  rcases lenTo_spec g D s j with ⟨h1, _⟩ | ⟨i, _, h0, h1, _⟩
  · omega
  · have := hD i; omega

theorem girth_of {g : Gr} (ok : GOk g) {s : Nat} (hs : s < g.n) (hc : OnC g s) {D : Nat → Int} (hD : ToS g s D) :
    ∃ len : Nat, lenTo g D s (g.L s) = len ∧ Girth g s len ∧ ∃ i, i < g.L s ∧ D (g.Z s i) = (len : Int) - 1 := by
  obtain ⟨k, x, ⟨i, hi, rfl⟩, hk⟩ := hc
  have hx0 : ∀ k i, i < g.L s → Wk g k (g.Z s i) s → 0 ≤ D (g.Z s i) ∧ D (g.Z s i) ≤ k := fun k i hi hk => by
    rcases hD _ (ok.rng s hs i hi).1 with ⟨_, h2⟩ | ⟨m, h1, _, h3⟩
    · exact absurd hk (h2 k)
    · have := h3 k hk; omega
  rcases lenTo_spec g D s (g.L s) with ⟨_, h2⟩ | ⟨i', hi', h0, h1, h2⟩
  · have := h2 i hi
    have := (hx0 k i hi hk).1
    omega
  · obtain ⟨m, hm⟩ := Int.eq_ofNat_of_zero_le h0
    refine ⟨m + 1, by rw [h1, hm]; rfl, ⟨by omega, ?_, fun k' hk' hw => ?_⟩, i', hi', by omega⟩
    · rcases hD _ (ok.rng s hs i' hi').1 with ⟨h3, _⟩ | ⟨m', h3, h4, _⟩
      · omega
      · have e : m' = m := by omega
        rw [e] at h4
        exact ⟨_, ⟨i', hi', rfl⟩, h4⟩
    · match k', hw with
      | 0, _ => omega
      | k'' + 1, ⟨y, ⟨j, hj, e⟩, hw⟩ =>
        rw [← e] at hw
        have h4 := hx0 k'' j hj hw
        have h5 := h2 j hj h4.1
        omega

/-- A place at distance t > 0 has a successor at distance t - 1. -/
theorem next_of {g : Gr} (ok : GOk g) {s : Nat} {D : Nat → Int} (hD : ToS g s D) {u : Nat} (hu : u < g.n) {t : Nat} (h : D u = ((t + 1 : Nat) : Int)) : ∃ i, i < g.L u ∧ D (g.Z u i) = t := by
  rcases hD u hu with ⟨h1, _⟩ | ⟨k, h1, h2, h3⟩
  · omega
  · have e : k = t + 1 := by omega
    subst e
    obtain ⟨x, ⟨i, hi, rfl⟩, hw⟩ := h2
    refine ⟨i, hi, ?_⟩
    rcases hD _ (ok.rng u hu i hi).1 with ⟨_, h5⟩ | ⟨m, h4, h5, h6⟩
    · exact absurd hw (h5 t)
    · have h7 := h6 t hw
      have h8 := h3 (m + 1) ⟨_, ⟨i, hi, rfl⟩, h5⟩
      omega

theorem ToS.self {g : Gr} {s : Nat} (hs : s < g.n) {D : Nat → Int} (hD : ToS g s D) : D s = 0 := by
  rcases hD s hs with ⟨_, h⟩ | ⟨k, h1, _, h3⟩
  · exact absurd rfl (h 0)
  · have := h3 0 rfl; omega

/-- The places of the cycle so far. -/
structure CycP (g : Gr) (s : Nat) (D : Nat → Int) (len : Nat) (pl : List Nat) : Prop where
  hd : pl[0]? = some s
  le : 1 ≤ pl.length ∧ pl.length ≤ len
  lt : ∀ x, x ∈ pl → x < g.n
  st : ∀ (i x y : Nat), pl[i]? = some x → pl[i + 1]? = some y → D y = (len : Int) - (i + 1) ∧ ∃ j, j < g.L x ∧ g.Z x j = y ∧ ∀ j', j' < j → D (g.Z x j') ≠ (len : Int) - (i + 1)

theorem CycP.start {g : Gr} {s : Nat} (hs : s < g.n) {D : Nat → Int} {len : Nat} (hl : 1 ≤ len) : CycP g s D len [s] :=
  ⟨rfl, ⟨Nat.le_refl _, hl⟩, fun x hx => by simp at hx; rw [hx]; exact hs, fun i x y _ h2 => by simp at h2⟩

theorem CycP.snoc {g : Gr} {s : Nat} {D : Nat → Int} {len : Nat} {pl : List Nat} (h : CycP g s D len pl) (hl : pl.length < len) {u j : Nat} (hu : pl[pl.length - 1]? = some u) (hj : j < g.L u) (hz : g.Z u j < g.n)
    (hD : D (g.Z u j) = (len : Int) - pl.length) (hf : ∀ j', j' < j → D (g.Z u j') ≠ (len : Int) - pl.length) : CycP g s D len (pl ++ [g.Z u j]) := by
  have hp := h.le.1
  refine ⟨?_, ?_, fun x hx => ?_, fun i x y h1 h2 => ?_⟩
  · rw [List.getElem?_append_left (by omega)]; exact h.hd
  · rw [List.length_append]; simp only [List.length_cons, List.length_nil]; omega
  · rcases List.mem_append.1 hx with hx | hx
    · exact h.lt x hx
    · simp at hx; rw [hx]; exact hz
  · by_cases hi : i + 1 < pl.length
    · rw [List.getElem?_append_left (by omega)] at h1
      rw [List.getElem?_append_left hi] at h2
      exact h.st i x y h1 h2
    · have hi2 : i + 1 = pl.length := by
        by_cases e : i + 1 = pl.length
        · exact e
        · exfalso
          rw [List.getElem?_eq_none (by rw [List.length_append]; simp only [List.length_cons, List.length_nil]; omega)] at h2
          simp at h2
      rw [List.getElem?_append_left (by omega)] at h1
      rw [List.getElem?_append_right (by omega), hi2, Nat.sub_self] at h2
      simp at h2
      subst h2
      have e : i = pl.length - 1 := by omega
      rw [e, hu] at h1
      simp at h1
      subst h1
      have ei : ((i : Int) + 1) = (pl.length : Int) := by omega
      rw [ei]
      exact ⟨hD, j, hj, rfl, hf⟩

section
variable {g : Gr} {s : Nat} {D : Nat → Int} {len : Nat} {pl : List Nat}

/-- The distance of the i-th place. -/
theorem CycP.dist (h : CycP g s D len pl) {i y : Nat} (hy : pl[i + 1]? = some y) : D y = (len : Int) - (i + 1) := by
  have hlt : i + 1 < pl.length := by
    rcases Nat.lt_or_ge (i + 1) pl.length with h' | h'
    · exact h'
    · rw [List.getElem?_eq_none h'] at hy; simp at hy
  exact (h.st i pl[i] y (List.getElem?_eq_getElem (by omega)) hy).1

theorem CycP.at_lt (h : CycP g s D len pl) {i y : Nat} (hy : pl[i]? = some y) : i < pl.length ∧ y < g.n := by
  have hlt : i < pl.length := by
    rcases Nat.lt_or_ge i pl.length with h' | h'
    · exact h'
    · rw [List.getElem?_eq_none h'] at hy; simp at hy
  exact ⟨hlt, h.lt y (List.mem_of_getElem? hy)⟩

/-- No place stands twice. -/
theorem CycP.inj (hs : s < g.n) (hD : ToS g s D) (h : CycP g s D len pl) {i j y : Nat} (hi : pl[i]? = some y) (hj : pl[j]? = some y) : i = j := by
  have hle := h.le
  have h0 := hD.self hs
  have l1 := (h.at_lt hi).1
  have l2 := (h.at_lt hj).1
  match i, j, hi, hj with
  | 0, 0, _, _ => rfl
  | 0, j + 1, hi, hj =>
    have d := h.dist hj
    rw [h.hd] at hi
    simp at hi
    rw [← hi, h0] at d
    omega
  | i + 1, 0, hi, hj =>
    have d := h.dist hi
    rw [h.hd] at hj
    simp at hj
    rw [← hj, h0] at d
    omega
  | i + 1, j + 1, hi, hj =>
    have d1 := h.dist hi
    have d2 := h.dist hj
    omega

/-- Every place of the cycle is reached from s and reaches s. -/
theorem CycP.from_s (h : CycP g s D len pl) : ∀ {i y : Nat}, pl[i]? = some y → Rch g s y
  | 0, y, hy => by
    rw [h.hd] at hy
    simp at hy
    rw [hy]; exact Rch.refl _ _
  | i + 1, y, hy => by
    have hlt := (h.at_lt hy).1
    have hx : pl[i]? = some pl[i] := List.getElem?_eq_getElem (by omega)
    obtain ⟨_, j, hj, hz, _⟩ := h.st i _ y hx hy
    exact (h.from_s hx).trans (Rch.edge ⟨j, hj, hz⟩)
theorem CycP.to_s (hD : ToS g s D) (h : CycP g s D len pl) {i y : Nat} (hy : pl[i]? = some y) : Rch g y s := by
  obtain ⟨hlt, hn⟩ := h.at_lt hy
  have hle := h.le
  match i, hy with
  | 0, hy =>
    rw [h.hd] at hy
    simp at hy
    rw [hy]; exact Rch.refl _ _
  | i + 1, hy =>
    have d := h.dist hy
    rcases hD y hn with ⟨h1, _⟩ | ⟨k, _, h2, _⟩
    · omega
    · exact ⟨k, h2⟩
theorem CycP.onC (hD : ToS g s D) (hc : OnC g s) (h : CycP g s D len pl) {i y : Nat} (hy : pl[i]? = some y) : OnC g y := by
  by_cases e : y = s
  · rw [e]; exact hc
  · exact OnC.of_two e (h.to_s hD hy) (h.from_s hy)
/-- The last arc. -/
theorem CycP.close (ok : GOk g) (hD : ToS g s D) (h : CycP g s D len pl) (hl : pl.length = len) (h2 : 2 ≤ len) {y : Nat} (hy : pl[len - 1]? = some y) : Edge g y s := by
  obtain ⟨i, rfl⟩ : ∃ i, len = i + 2 := ⟨len - 2, by omega⟩
  have hy' : pl[i + 1]? = some y := hy
  have d := h.dist hy'
  have hn := (h.at_lt hy').2
  have e1 : D y = ((0 + 1 : Nat) : Int) := by omega
  obtain ⟨j, hj, hz⟩ := next_of ok hD hn e1
  refine ⟨j, hj, ?_⟩
  rcases hD _ (ok.rng y hn j hj).1 with ⟨h3, _⟩ | ⟨k, h3, h4, _⟩
  · omega
  · have : k = 0 := by omega
    subst this
    exact h4
theorem CycP.nodup (hs : s < g.n) (hD : ToS g s D) (h : CycP g s D len pl) : pl.Nodup := by
  unfold List.Nodup
  rw [List.pairwise_iff_getElem]
  intro i j hi hj hij e
  have h1 : pl[i]? = some pl[i] := List.getElem?_eq_getElem hi
  have h2 : pl[j]? = some pl[i] := by rw [e]; exact List.getElem?_eq_getElem hj
  have := h.inj hs hD h1 h2
  omega
theorem CycP.len_le (hs : s < g.n) (hD : ToS g s D) (h : CycP g s D len pl) : pl.length ≤ g.n := pigeon g.n pl (h.nodup hs hD) h.lt
end

end Go.Proofs.Qxb6600028a
