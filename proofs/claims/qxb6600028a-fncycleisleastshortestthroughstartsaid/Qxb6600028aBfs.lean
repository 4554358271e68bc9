/-
  PLAIN: a breadth-first search, whatever its arcs. No Go in sight.
-/
import Derived.Test.Qxb6600028aKahn
namespace Go.Proofs.Qxb6600028a

/-- What a search from s goes by: W k v: v is met by k arcs; N x y: y is next to x. -/
structure WN (n s : Nat) (W : Nat → Nat → Prop) (N : Nat → Nat → Prop) : Prop where
  sn : s < n
  w0 : ∀ v, W 0 v ↔ v = s
  ws : ∀ k v, W (k + 1) v ↔ ∃ x, W k x ∧ N x v
  rng : ∀ x y, x < n → N x y → y < n

theorem WN.lt {n s : Nat} {W N : Nat → Nat → Prop} (h : WN n s W N) : ∀ {k v : Nat}, W k v → v < n
  | 0, v, hw => by rw [(h.w0 v).1 hw]; exact h.sn
  | k + 1, v, hw => by
    obtain ⟨x, hx, hn⟩ := (h.ws k v).1 hw
    exact h.rng x v (h.lt hx) hn

/-- D tells the distances. -/
def DistOk (n : Nat) (W : Nat → Nat → Prop) (D : Nat → Int) : Prop :=
  ∀ v, v < n → (D v = -1 ∧ ∀ k, ¬ W k v) ∨ ∃ k : Nat, D v = k ∧ W k v ∧ ∀ k', W k' v → k ≤ k'

/-- At the head of the search: P expanded, T still to come. -/
structure BH (n s : Nat) (W N : Nat → Nat → Prop) (D : Nat → Int) (P T : List Nat) : Prop where
  vis : ∀ v, v < n → (v ∈ P ++ T ↔ 0 ≤ D v)
  neg : ∀ v, v < n → D v = -1 ∨ 0 ≤ D v
  mem : ∀ v, v ∈ P ++ T → v < n
  src : D s = 0
  snd : ∀ v, v < n → 0 ≤ D v → ∃ k : Nat, D v = k ∧ W k v
  clo : ∀ x, x ∈ P → ∀ y, y < n → N x y → 0 ≤ D y ∧ D y ≤ D x + 1
  srt : T.Pairwise (fun a b => D a ≤ D b)
  top : ∀ u T', T = u :: T' → ∀ y, y < n → 0 ≤ D y → D y ≤ D u + 1
  nd : (P ++ T).Nodup

/-- While u is expanded: pr: what is looked at. -/
structure BC (n s : Nat) (W N : Nat → Nat → Prop) (D : Nat → Int) (P : List Nat) (u : Nat) (T : List Nat) (pr : Nat → Prop) : Prop where
  vis : ∀ v, v < n → (v ∈ P ++ u :: T ↔ 0 ≤ D v)
  neg : ∀ v, v < n → D v = -1 ∨ 0 ≤ D v
  mem : ∀ v, v ∈ P ++ u :: T → v < n
  src : D s = 0
  snd : ∀ v, v < n → 0 ≤ D v → ∃ k : Nat, D v = k ∧ W k v
  clo : ∀ x, x ∈ P → ∀ y, y < n → N x y → 0 ≤ D y ∧ D y ≤ D x + 1
  cur : ∀ y, y < n → pr y → 0 ≤ D y ∧ D y ≤ D u + 1
  srt : T.Pairwise (fun a b => D a ≤ D b)
  low : ∀ y, y ∈ T → D u ≤ D y
  top : ∀ y, y < n → 0 ≤ D y → D y ≤ D u + 1
  nd : (P ++ u :: T).Nodup

theorem BH.start {n s : Nat} {W N : Nat → Nat → Prop} (h : WN n s W N) {D : Nat → Int} (hs : D s = 0) (ho : ∀ v, v < n → v ≠ s → D v = -1) : BH n s W N D [] [s] := by
  refine ⟨fun v hv => ?_, fun v hv => ?_, fun v hv => ?_, hs, fun v hv h0 => ?_, by simp, by simp, fun u T' e y hy h0 => ?_, by simp⟩
  · by_cases e : v = s
    · subst e; simp [hs]
    · have := ho v hv e
      simp [e]; omega
  · by_cases e : v = s
    · subst e; right; omega
    · exact Or.inl (ho v hv e)
  · have : v = s := by simpa using hv
    rw [this]; exact h.sn
  · by_cases e : v = s
    · subst e; exact ⟨0, hs, (h.w0 v).2 rfl⟩
    · have := ho v hv e; omega
  · have e' : u = s := by simp at e; exact e.1.symm
    by_cases ey : y = s
    · subst ey; rw [e']; omega
    · have := ho y hy ey; omega

theorem BH.pop {n s : Nat} {W N : Nat → Nat → Prop} {D : Nat → Int} {P T : List Nat} {u : Nat} (h : BH n s W N D P (u :: T)) : BC n s W N D P u T (fun _ => False) :=
  ⟨h.vis, h.neg, h.mem, h.src, h.snd, h.clo, fun _ _ f => f.elim, (List.pairwise_cons.1 h.srt).2, (List.pairwise_cons.1 h.srt).1, h.top u T rfl, h.nd⟩

theorem BC.curr {n s : Nat} {W N : Nat → Nat → Prop} {D : Nat → Int} {P T : List Nat} {u : Nat} {pr : Nat → Prop} (h : BC n s W N D P u T pr) : u < n ∧ 0 ≤ D u := by
  have hu : u < n := h.mem u (by simp)
  exact ⟨hu, (h.vis u hu).1 (by simp)⟩

/-- A neighbour that is met already. -/
theorem BC.skip {n s : Nat} {W N : Nat → Nat → Prop} {D : Nat → Int} {P T : List Nat} {u : Nat} {pr : Nat → Prop} (h : BC n s W N D P u T pr) {y : Nat} (h0 : 0 ≤ D y) : BC n s W N D P u T (fun z => pr z ∨ z = y) :=
  ⟨h.vis, h.neg, h.mem, h.src, h.snd, h.clo, fun z hz hp => by
    rcases hp with hp | rfl
    · exact h.cur z hz hp
    · exact ⟨h0, h.top z hz h0⟩, h.srt, h.low, h.top, h.nd⟩

/-- A new neighbour. -/
theorem BC.add {n s : Nat} {W N : Nat → Nat → Prop} (hW : WN n s W N) {D : Nat → Int} {P T : List Nat} {u : Nat} {pr : Nat → Prop} (h : BC n s W N D P u T pr) {y : Nat} (hy : y < n) (h0 : D y < 0) (hN : N u y) :
    BC n s W N (upd D y (D u + 1)) P u (T ++ [y]) (fun z => pr z ∨ z = y) := by
  obtain ⟨hu, hu0⟩ := h.curr
  have hyQ : y ∉ P ++ u :: T := fun hm => by have := (h.vis y hy).1 hm; omega
  have hyu : u ≠ y := fun e => hyQ (by rw [← e]; simp)
  have hD : ∀ z, z ∈ P ++ u :: T → upd D y (D u + 1) z = D z := fun z hz => upd_ne _ _ _ (fun e => hyQ (e ▸ hz))
  have hDu : upd D y (D u + 1) u = D u := upd_ne _ _ _ hyu
  refine ⟨fun v hv => ?_, fun v hv => ?_, fun v hv => ?_, ?_, fun v hv hv0 => ?_, fun x hx z hz hxz => ?_, fun z hz hp => ?_, ?_, fun z hz => ?_, fun z hz hz0 => ?_, ?_⟩
  · have e1 : (v ∈ P ++ u :: (T ++ [y])) ↔ (v ∈ P ++ u :: T ∨ v = y) := by simp [or_assoc]
    rw [e1]
    by_cases e : v = y
    · subst e; rw [upd_same]; simp; omega
    · rw [upd_ne _ _ _ e, ← h.vis v hv]; simp [e]
  · by_cases e : v = y
    · subst e; rw [upd_same]; right; omega
    · rw [upd_ne _ _ _ e]; exact h.neg v hv
  · have e1 : v ∈ P ++ u :: T ∨ v = y := by simpa [or_assoc] using hv
    rcases e1 with e1 | rfl
    · exact h.mem v e1
    · exact hy
  · rw [upd_ne _ _ _ (fun e => by rw [← e, h.src] at h0; omega)]; exact h.src
  · by_cases e : v = y
    · subst e
      rw [upd_same]
      obtain ⟨k, hk, hw⟩ := h.snd u hu hu0
      exact ⟨k + 1, by rw [hk]; rfl, (hW.ws k v).2 ⟨u, hw, hN⟩⟩
    · rw [upd_ne _ _ _ e] at hv0 ⊢; exact h.snd v hv hv0
  · rw [hD x (by simp [hx])]
    have := h.clo x hx z hz hxz
    have e : z ≠ y := fun e => by rw [e] at this; omega
    rw [upd_ne _ _ _ e]; exact this
  · rw [hDu]
    by_cases e : z = y
    · subst e; rw [upd_same]; omega
    · rw [upd_ne _ _ _ e]
      rcases hp with hp | hp
      · exact h.cur z hz hp
      · exact absurd hp e
  · rw [List.pairwise_append]
    refine ⟨h.srt.imp_of_mem (fun {a b} ha hb hab => ?_), by simp, fun a ha b hb => ?_⟩
    · rw [hD a (by simp [ha]), hD b (by simp [hb])]; exact hab
    · have : b = y := by simpa using hb
      subst this
      rw [upd_same, hD a (by simp [ha])]
      exact h.top a (h.mem a (by simp [ha])) ((h.vis a (h.mem a (by simp [ha]))).1 (by simp [ha]))
  · rw [hDu]
    rcases List.mem_append.1 hz with hz | hz
    · rw [hD z (by simp [hz])]; exact h.low z hz
    · have : z = y := by simpa using hz
      subst this; rw [upd_same]; omega
  · rw [hDu]
    by_cases e : z = y
    · subst e; rw [upd_same]; omega
    · rw [upd_ne _ _ _ e] at hz0 ⊢; exact h.top z hz hz0
  · have e1 : P ++ u :: (T ++ [y]) = (P ++ u :: T) ++ [y] := by simp
    rw [e1, List.nodup_append]
    refine ⟨h.nd, by simp, fun a ha b hb => ?_⟩
    have : b = y := by simpa using hb
    subst this
    exact fun e => hyQ (e ▸ ha)

theorem BC.done {n s : Nat} {W N : Nat → Nat → Prop} {D : Nat → Int} {P T : List Nat} {u : Nat} {pr : Nat → Prop} (h : BC n s W N D P u T pr) (hall : ∀ y, N u y → pr y) : BH n s W N D (P ++ [u]) T := by
  have e : ∀ v, v ∈ P ++ [u] ++ T ↔ v ∈ P ++ u :: T := fun v => by simp
  refine ⟨fun v hv => by rw [e]; exact h.vis v hv, h.neg, fun v hv => h.mem v ((e v).1 hv), h.src, h.snd, fun x hx y hy hxy => ?_, h.srt, fun u' T' eT y hy h0 => ?_, ?_⟩
  · rcases List.mem_append.1 hx with hx | hx
    · exact h.clo x hx y hy hxy
    · have : x = u := by simpa using hx
      subst this
      exact h.cur y hy (hall y hxy)
  · have h1 := h.top y hy h0
    have h2 := h.low u' (by rw [eT]; simp)
    omega
  · have e1 : P ++ [u] ++ T = P ++ u :: T := by simp
    rw [e1]; exact h.nd

theorem BH.final {n s : Nat} {W N : Nat → Nat → Prop} (hW : WN n s W N) {D : Nat → Int} {P : List Nat} (h : BH n s W N D P []) : DistOk n W D := by
  have key : ∀ k v, W k v → 0 ≤ D v ∧ D v ≤ k := by
    intro k
    induction k with
    | zero => intro v hv; rw [(hW.w0 v).1 hv, h.src]; omega
    | succ k ih =>
      intro v hv
      obtain ⟨x, hx, hxv⟩ := (hW.ws k v).1 hv
      have h1 := ih x hx
      have hxP : x ∈ P := by
        have := (h.vis x (hW.lt hx)).2 h1.1
        simpa using this
      have h2 := h.clo x hxP v (hW.lt hv) hxv
      omega
  intro v hv
  rcases h.neg v hv with h1 | h1
  · exact Or.inl ⟨h1, fun k hk => by have := key k v hk; omega⟩
  · obtain ⟨k, hk, hw⟩ := h.snd v hv h1
    exact Or.inr ⟨k, hk, hw, fun k' hk' => by have := (key k' v hk').2; omega⟩

theorem BC.len {n s : Nat} {W N : Nat → Nat → Prop} {D : Nat → Int} {P T : List Nat} {u : Nat} {pr : Nat → Prop} (h : BC n s W N D P u T pr) : P.length + T.length + 1 ≤ n := by
  have := pigeon n _ h.nd h.mem
  simp only [List.length_append, List.length_cons] at this
  omega
theorem BH.len {n s : Nat} {W N : Nat → Nat → Prop} {D : Nat → Int} {P T : List Nat} (h : BH n s W N D P T) : P.length + T.length ≤ n := by
  have := pigeon n _ h.nd h.mem
  simpa using this

/-! ### The two searches -/

/-- Towards s. -/
theorem WN.back {g : Gr} (ok : GOk g) {s : Nat} (hs : s < g.n) : WN g.n s (fun k v => v < g.n ∧ Wk g k v s) (fun x y => y < g.n ∧ Edge g y x) := by
  refine ⟨hs, fun v => ?_, fun k v => ?_, fun x y _ h => h.1⟩
  · constructor
    · rintro ⟨_, h⟩; exact h
    · rintro rfl; exact ⟨hs, rfl⟩
  · constructor
    · rintro ⟨hv, x, hx, h⟩; exact ⟨x, ⟨hx.lt ok hv, h⟩, hv, hx⟩
    · rintro ⟨x, ⟨_, h⟩, hv, hx⟩; exact ⟨hv, x, hx, h⟩

/-- From s. -/
theorem WN.forth {g : Gr} (ok : GOk g) {s : Nat} (hs : s < g.n) : WN g.n s (fun k v => Wk g k s v) (fun x y => Edge g x y) := by
  refine ⟨hs, fun v => ⟨fun h => h.symm, fun h => h.symm⟩, fun k v => ?_, fun x y hx h => h.lt ok hx⟩
  constructor
  · intro h
    obtain ⟨x, h1, y, h2, h3⟩ := Wk.split (a := k) (b := 1) h
    have e : y = v := h3
    exact ⟨x, h1, e ▸ h2⟩
  · rintro ⟨x, h1, h2⟩; exact h1.snoc h2

/-- The distances to s. -/
def ToS (g : Gr) (s : Nat) (D : Nat → Int) : Prop := ∀ v, v < g.n → (D v = -1 ∧ ∀ k, ¬ Wk g k v s) ∨ ∃ k : Nat, D v = k ∧ Wk g k v s ∧ ∀ k', Wk g k' v s → k ≤ k'
theorem ToS.of {g : Gr} {s : Nat} {D : Nat → Int} (h : DistOk g.n (fun k v => v < g.n ∧ Wk g k v s) D) : ToS g s D := by
  intro v hv
  rcases h v hv with ⟨h1, h2⟩ | ⟨k, h1, h2, h3⟩
  · exact Or.inl ⟨h1, fun k hk => h2 k ⟨hv, hk⟩⟩
  · exact Or.inr ⟨k, h1, h2.2, fun k' hk' => h3 k' ⟨hv, hk'⟩⟩

/-- A shortest return to s has len arcs. -/
structure Girth (g : Gr) (s len : Nat) : Prop where
  pos : 1 ≤ len
  walk : Wk g len s s
  least : ∀ k, 1 ≤ k → Wk g k s s → len ≤ k

theorem Girth.uniq {g : Gr} {s a b : Nat} (h : Girth g s a) (k : Girth g s b) : a = b := by
  have h1 := h.least b k.pos k.walk
  have h2 := k.least a h.pos h.walk
  omega

theorem Girth.two {g : Gr} (ok : GOk g) {s len : Nat} (hs : s < g.n) (h : Girth g s len) : 2 ≤ len := by
  have h1 := h.pos
  by_cases e : len = 1
  · exfalso
    have := h.walk
    rw [e] at this
    obtain ⟨x, hx, hw⟩ := this
    have : x = s := hw
    exact (hx.ne ok hs) this
  · omega

end Go.Proofs.Qxb6600028a
