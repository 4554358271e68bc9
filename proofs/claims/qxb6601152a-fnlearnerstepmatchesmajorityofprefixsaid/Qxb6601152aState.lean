import Derived.Test.Qxb6601152aStepP
import Derived.Test.Qxb6601152aStepN
import Derived.Test.Qxb6601152aWeight
namespace Go.Proofs.Qxb6601152a
open Go.RowKit Go.Deep

theorem MapF.mono {w : World} {mb n n' : Nat} {F : Int → Int → Option Value} (h : MapF w mb n F) (hn : n ≤ n') : MapF w mb n' F := by
  obtain ⟨D, ho, hF⟩ := h
  exact ⟨D, ho.mono hn, hF⟩

/-- The votes as the map holds them. -/
def FF (P : Int → Int → Bool) (G : Int → Int → Nat) (Cv : Int → Int → Value) (r d : Int) : Option Value := if P r d then some (qv (G r d) (Cv r d)) else none

/-- The learner's memory while it counts, after j messages. -/
structure Votes (w : World) (B0 : Nat) (av : Value) (n : Nat) (X : Nat → Int) (M : Nat → ZM) (j : Nat) (P : Int → Int → Bool) (G : Int → Int → Nat) (Cv : Int → Int → Value) (Cs : Int → Int → List Int) : Prop where
  cells : w.rowIs (B0 + 1) 47 5 (lcell av (.map (some B0)) 0 0 (ByteArray.mk #[]))
  map : MapF w B0 j (FF P G Cv)
  absent : ∀ r d, P r d = false → Cs r d = []
  own : ∀ r d, P r d = true → Own w (B0 + 2) (Cv r d) (Cs r d)
  grp : ∀ r d, P r d = true → B0 + 2 ≤ G r d ∧ w.rowIs (G r d) 22 1 (fun _ => av)
  apart : ∀ r d r' d' g, P r d = true → P r' d' = true → (Cv r d).ownBlock = some g → (Cv r' d').ownBlock = some g → r = r' ∧ d = d'
  len : ∀ r d, (Cs r d).length ≤ j
  mem : ∀ r d a, a ∈ Cs r d ↔ has n X a = true ∧ hit M j a r d = true
  low : ∀ r d, 2 * wt n X M j r d ≤ n

/-- The learner's memory after j messages. -/
def LS (w : World) (B0 : Nat) (av : Value) (n : Nat) (X : Nat → Int) (M : Nat → ZM) (j : Nat) (L : Bool) (r d : Int) (s : ByteArray) : Prop :=
  (L = false ∧ r = 0 ∧ d = 0 ∧ s = ByteArray.mk #[] ∧ ∃ P G Cv Cs, Votes w B0 av n X M j P G Cv Cs) ∨
  (L = true ∧ w.rowIs (B0 + 1) 47 5 (lcell av (.map none) r d s))

theorem has_at (n : Nat) (X : Nat → Int) {i : Nat} (hi : i < n) : has n X (X i) = true := (has_iff X _ n).2 ⟨i, hi, rfl⟩

theorem Votes.same {w w' : World} {B0 : Nat} {av : Value} {n : Nat} {X : Nat → Int} {M : Nat → ZM} {j : Nat} {P : Int → Int → Bool} {G : Int → Int → Nat} {Cv : Int → Int → Value} {Cs : Int → Int → List Int}
    (h : Votes w B0 av n X M j P G Cv Cs) (hs : w.Since w.heap.size w') (he : ∀ a r d, has n X a = true → hit M (j + 1) a r d = hit M j a r d) : Votes w' B0 av n X M (j + 1) P G Cv Cs where
  cells := rowIs_since h.cells hs
  map := (h.map.kept (hs.block _ h.map.lt)).mono (by omega)
  absent := h.absent
  own r d hp := (h.own r d hp).kept (fun g hg => hs.block _ ((h.own r d hp).lt hg).2.1)
  grp r d hp := ⟨(h.grp r d hp).1, rowIs_since (h.grp r d hp).2 hs⟩
  apart := h.apart
  len r d := by have := h.len r d; omega
  mem r d a := by
    rw [h.mem]
    constructor
    · rintro ⟨h1, h2⟩; exact ⟨h1, by rw [he _ _ _ h1]; exact h2⟩
    · rintro ⟨h1, h2⟩; exact ⟨h1, by rw [← he _ _ _ h1]; exact h2⟩
  low r d := by
    have := h.low r d
    have e : wt n X M (j + 1) r d = wt n X M j r d := cnt_congr n (fun i hi => he _ _ _ (has_at n X hi))
    omega

theorem is4_false_of {z : ZM} {a r d : Int} (h : ¬ (z.ty = 4 ∧ z.fr = a ∧ z.br = r ∧ z.bn = d)) : is4 z a r d = false := by
  rw [Bool.eq_false_iff]
  intro e
  simp only [is4, Bool.and_eq_true, beq_iff_eq] at e
  exact h ⟨e.1.1.1, e.1.1.2, e.1.2, e.2⟩

theorem is4_true {z : ZM} (h4 : z.ty = 4) : is4 z z.fr z.br z.bn = true := by simp [is4, h4]

/-- The count of the places whose acceptor has been counted, told by the messages. -/
theorem cnt_eq {w : World} {B0 : Nat} {av : Value} {n : Nat} {X : Nat → Int} {M : Nat → ZM} {j : Nat} {P : Int → Int → Bool} {G : Int → Int → Nat} {Cv : Int → Int → Value} {Cs : Int → Int → List Int}
    (h : Votes w B0 av n X M j P G Cv Cs) (h4 : (M j).ty = 4) :
    cnt n (fun i => has (Cs (M j).br (M j).bn ++ [(M j).fr]).length (fun k => (Cs (M j).br (M j).bn ++ [(M j).fr]).getD k 0) (X i)) = wt n X M (j + 1) (M j).br (M j).bn := by
  unfold wt
  refine cnt_congr n (fun i hi => ?_)
  rw [has_getD, hit]
  have hm := h.mem (M j).br (M j).bn (X i)
  rw [has_at n X hi] at hm
  by_cases e : X i = (M j).fr
  · rw [e, is4_true h4]; simp
  · have e4 : is4 (M j) (X i) (M j).br (M j).bn = false := is4_false_of (fun ⟨_, h, _⟩ => e h.symm)
    rw [e4, Bool.or_false]
    cases hh : hit M j (X i) (M j).br (M j).bn
    · simp only [decide_eq_false_iff_not, List.mem_append, List.mem_singleton, not_or]
      exact ⟨fun hin => by have := (hm.1 hin).2; rw [hh] at this; simp at this, e⟩
    · simp only [decide_eq_true_eq, List.mem_append, List.mem_singleton]
      exact .inl (hm.2 ⟨rfl, hh⟩)

theorem Votes.put {w w' : World} {B0 : Nat} {av : Value} {n : Nat} {X : Nat → Int} {M : Nat → ZM} {j : Nat} {P : Int → Int → Bool} {G : Int → Int → Nat} {Cv : Int → Int → Value} {Cs : Int → Int → List Int}
    (h : Votes w B0 av n X M j P G Cv Cs) (h4 : (M j).ty = 4) (hhas : has n X (M j).fr = true) {c c' : Value} {g : Nat}
    (hc : (P (M j).br (M j).bn = true ∧ c = Cv (M j).br (M j).bn) ∨ (P (M j).br (M j).bn = false ∧ c = .slice none 0 0))
    (hk : Kp w (fun b => b = B0 ∨ some b = c.ownBlock) w') (hcells : w'.rowIs (B0 + 1) 47 5 (lcell av (.map (some B0)) 0 0 (ByteArray.mk #[])))
    (hmap : MapF w' B0 (j + 1) (fun r d => if r = (M j).br ∧ d = (M j).bn then some (qv g c') else FF P G Cv r d))
    (hown : Own w' (B0 + 2) c' (Cs (M j).br (M j).bn ++ [(M j).fr])) (hg : B0 + 2 ≤ g) (hgr : w'.rowIs g 22 1 (fun _ => av))
    (hloc : c'.ownBlock = c.ownBlock ∨ ∃ x, c'.ownBlock = some x ∧ w.heap.size ≤ x)
    (hlow : ¬ n < 2 * wt n X M (j + 1) (M j).br (M j).bn) :
    ∃ P G Cv Cs, Votes w' B0 av n X M (j + 1) P G Cv Cs := by
  obtain ⟨em, cm, hem⟩ := h.map.isMap
  have hcell : ∀ {b : Nat} {x : Array Value} {t : TypeId}, w.heap[b]? = some (.cells x t (0, 0)) → t ≠ 30 → w'.heap[b]? = w.heap[b]? := by
    intro b x t hb ht
    refine hk.block b (Array.getElem?_eq_some_iff.1 hb).1 ?_
    rintro (rfl | e)
    · rw [hem] at hb; simp at hb
    · rcases hc with ⟨hp, rfl⟩ | ⟨_, rfl⟩
      · obtain ⟨_, _, cur, hcur⟩ := (h.own _ _ hp).lt e.symm
        rw [hcur] at hb
        simp at hb
        exact ht hb.2.symm
      · simp [Value.ownBlock] at e
  have hoth : ∀ r d, P r d = true → ¬ (r = (M j).br ∧ d = (M j).bn) → Own w' (B0 + 2) (Cv r d) (Cs r d) := by
    intro r d hp hne
    refine (h.own r d hp).kept (fun x hx => hk.block x ((h.own r d hp).lt hx).2.1 ?_)
    rintro (rfl | e)
    · obtain ⟨_, _, cur, hcur⟩ := (h.own r d hp).lt hx
      rw [hem] at hcur
      simp at hcur
    · rcases hc with ⟨hp', rfl⟩ | ⟨_, rfl⟩
      · exact hne (h.apart r d _ _ x hp hp' hx e.symm)
      · simp [Value.ownBlock] at e
  have hapo : ∀ r d x, P r d = true → ¬ (r = (M j).br ∧ d = (M j).bn) → (Cv r d).ownBlock = some x → c'.ownBlock = some x → False := by
    intro r d x hp hne hx hc'
    rcases hloc with e | ⟨y, hy, hle⟩
    · rw [e] at hc'
      rcases hc with ⟨hp', rfl⟩ | ⟨_, rfl⟩
      · exact hne (h.apart r d _ _ x hp hp' hx hc')
      · simp [Value.ownBlock] at hc'
    · rw [hc'] at hy
      have := ((h.own r d hp).lt hx).2.1
      simp only [Option.some.injEq] at hy
      omega
  refine ⟨fun r d => if r = (M j).br ∧ d = (M j).bn then true else P r d, fun r d => if r = (M j).br ∧ d = (M j).bn then g else G r d,
    fun r d => if r = (M j).br ∧ d = (M j).bn then c' else Cv r d, fun r d => if r = (M j).br ∧ d = (M j).bn then Cs (M j).br (M j).bn ++ [(M j).fr] else Cs r d, hcells, ?_, ?_, ?_, ?_, ?_, ?_, ?_, ?_⟩
  · have e : (FF (fun r d => if r = (M j).br ∧ d = (M j).bn then true else P r d) (fun r d => if r = (M j).br ∧ d = (M j).bn then g else G r d) (fun r d => if r = (M j).br ∧ d = (M j).bn then c' else Cv r d)) =
        (fun r d => if r = (M j).br ∧ d = (M j).bn then some (qv g c') else FF P G Cv r d) := by
      funext r d
      by_cases hrd : r = (M j).br ∧ d = (M j).bn
      · simp [FF, hrd]
      · simp only [FF, hrd, if_false]
    rw [e]
    exact hmap
  · intro r d hp
    by_cases hrd : r = (M j).br ∧ d = (M j).bn
    · simp [hrd] at hp
    · simp only [hrd, if_false] at hp ⊢
      exact h.absent r d hp
  · intro r d hp
    by_cases hrd : r = (M j).br ∧ d = (M j).bn
    · simp only [hrd, and_self, if_true]
      exact hown
    · simp only [hrd, if_false] at hp ⊢
      exact hoth r d hp hrd
  · intro r d hp
    by_cases hrd : r = (M j).br ∧ d = (M j).bn
    · simp only [hrd, and_self, if_true]
      exact ⟨hg, hgr⟩
    · simp only [hrd, if_false] at hp ⊢
      obtain ⟨h1, h2⟩ := h.grp r d hp
      obtain ⟨x, hx⟩ := rowIs_obj h2
      exact ⟨h1, h2.of_block (hcell hx (by decide))⟩
  · intro r d r' d' x hp hp' hx hx'
    by_cases hrd : r = (M j).br ∧ d = (M j).bn
    · by_cases hrd' : r' = (M j).br ∧ d' = (M j).bn
      · exact ⟨hrd.1.trans hrd'.1.symm, hrd.2.trans hrd'.2.symm⟩
      · simp only [hrd', if_false] at hp' hx'
        rw [if_pos hrd] at hx
        exact absurd hx (fun hx => hapo r' d' x hp' hrd' hx' hx)
    · simp only [hrd, if_false] at hp hx
      by_cases hrd' : r' = (M j).br ∧ d' = (M j).bn
      · rw [if_pos hrd'] at hx'
        exact absurd hx' (fun hx' => hapo r d x hp hrd hx hx')
      · simp only [hrd', if_false] at hp' hx'
        exact h.apart r d r' d' x hp hp' hx hx'
  · intro r d
    by_cases hrd : r = (M j).br ∧ d = (M j).bn
    · simp only [hrd, and_self, if_true]
      have := h.len (M j).br (M j).bn
      simp
      omega
    · simp only [hrd, if_false]
      have := h.len r d
      omega
  · intro r d a
    by_cases hrd : r = (M j).br ∧ d = (M j).bn
    · simp only [hrd, and_self, if_true]
      rw [List.mem_append, h.mem, hit, Bool.or_eq_true, List.mem_singleton]
      constructor
      · rintro (⟨h1, h2⟩ | rfl)
        · exact ⟨h1, .inl h2⟩
        · exact ⟨hhas, .inr (is4_true h4)⟩
      · rintro ⟨h1, h2 | h2⟩
        · exact .inl ⟨h1, h2⟩
        · refine .inr ?_
          simp only [is4, Bool.and_eq_true, beq_iff_eq] at h2
          exact h2.1.1.2.symm
    · simp only [hrd, if_false]
      rw [h.mem, hit, is4_false_of (fun ⟨_, _, h1, h2⟩ => hrd ⟨h1.symm, h2.symm⟩), Bool.or_false]
  · intro r d
    by_cases hrd : r = (M j).br ∧ d = (M j).bn
    · obtain ⟨rfl, rfl⟩ := hrd
      omega
    · have := h.low r d
      have e : wt n X M (j + 1) r d = wt n X M j r d := cnt_congr n (fun i _ => by rw [hit, is4_false_of (fun ⟨_, _, h1, h2⟩ => hrd ⟨h1.symm, h2.symm⟩), Bool.or_false])
      omega
end Go.Proofs.Qxb6601152a
