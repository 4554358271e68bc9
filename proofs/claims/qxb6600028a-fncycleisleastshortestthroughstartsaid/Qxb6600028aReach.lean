import Derived.Test.Qxb6600028aMem
namespace Go.Proofs.Qxb6600028a
open Go.RowKit Go.Deep

/-! ### The search from p, plain -/

/-- v is being expanded, j of its arcs are looked at; of p's own arcs jp. -/
structure SI (g : Gr) (p jp : Nat) (seen : Nat → Bool) (S : List Nat) (v j : Nat) : Prop where
  sn : ∀ x, x ∈ S → x < g.n ∧ seen x = true
  snd : ∀ x, x < g.n → seen x = true → ∃ k, Wk g (k + 1) p x
  ex : ∀ x, x < g.n → seen x = true → x ∉ S → x ≠ p ∧ (x ≠ v → ∀ y, Edge g x y → seen y = true)
  pv : ∀ i, i < j → seen (g.Z v i) = true
  pp : ∀ i, i < jp → seen (g.Z p i) = true

theorem SI.start (g : Gr) (p : Nat) : SI g p 0 (fun _ => false) [] g.n 0 :=
  ⟨by simp, by simp, by simp, by simp, by simp⟩

theorem upd_mono {seen : Nat → Bool} {x y : Nat} (h : seen y = true) : upd seen x true y = true := by
  unfold upd; split
  · rfl
  · exact h

theorem SI.push {g : Gr} {p jp : Nat} {seen : Nat → Bool} {S : List Nat} {v j : Nat} (h : SI g p jp seen S v j) {x : Nat} (hx : x < g.n) (hr : ∃ k, Wk g (k + 1) p x) : SI g p jp (upd seen x true) (x :: S) v j := by
  refine ⟨fun y hy => ?_, fun y hy hs => ?_, fun y hy hs hns => ?_, fun i hi => upd_mono (h.pv i hi), fun i hi => upd_mono (h.pp i hi)⟩
  · rcases List.mem_cons.1 hy with rfl | hy
    · exact ⟨hx, upd_same _ _ _⟩
    · exact ⟨(h.sn y hy).1, upd_mono (h.sn y hy).2⟩
  · by_cases e : y = x
    · subst e; exact hr
    · rw [upd_ne _ _ _ e] at hs; exact h.snd y hy hs
  · have e : y ≠ x := fun e => hns (e ▸ List.mem_cons_self)
    rw [upd_ne _ _ _ e] at hs
    obtain ⟨h1, h2⟩ := h.ex y hy hs (fun hm => hns (List.mem_cons_of_mem _ hm))
    exact ⟨h1, fun hv z hz => upd_mono (h2 hv z hz)⟩

theorem SI.arcP {g : Gr} {p jp : Nat} {seen : Nat → Bool} {S : List Nat} {v j : Nat} (h : SI g p jp seen S v j) (hs : seen (g.Z p jp) = true) : SI g p (jp + 1) seen S v j :=
  ⟨h.sn, h.snd, h.ex, h.pv, fun i hi => by
    by_cases e : i = jp
    · subst e; exact hs
    · exact h.pp i (by omega)⟩
theorem SI.arcV {g : Gr} {p jp : Nat} {seen : Nat → Bool} {S : List Nat} {v j : Nat} (h : SI g p jp seen S v j) (hs : seen (g.Z v j) = true) : SI g p jp seen S v (j + 1) :=
  ⟨h.sn, h.snd, h.ex, fun i hi => by
    by_cases e : i = j
    · subst e; exact hs
    · exact h.pv i (by omega), h.pp⟩
theorem SI.pop {g : Gr} {p jp : Nat} {seen : Nat → Bool} {S : List Nat} {v : Nat} (h : SI g p jp seen (v :: S) g.n 0) (hv : v ≠ p) : SI g p jp seen S v 0 := by
  refine ⟨fun x hx => h.sn x (List.mem_cons_of_mem _ hx), h.snd, fun x hx hs hns => ?_, by simp, h.pp⟩
  by_cases e : x = v
  · subst e; exact ⟨hv, fun h' => absurd rfl h'⟩
  · obtain ⟨h1, h2⟩ := h.ex x hx hs (by simp [e, hns])
    exact ⟨h1, fun _ => h2 (by omega)⟩
theorem SI.done {g : Gr} {p jp : Nat} {seen : Nat → Bool} {S : List Nat} {v : Nat} (h : SI g p jp seen S v (g.L v)) : SI g p jp seen S g.n 0 := by
  refine ⟨h.sn, h.snd, fun x hx hs hns => ?_, by simp, h.pp⟩
  obtain ⟨h1, h2⟩ := h.ex x hx hs hns
  refine ⟨h1, fun _ y hy => ?_⟩
  by_cases e : x = v
  · subst e
    obtain ⟨i, hi, rfl⟩ := hy
    exact h.pv i hi
  · exact h2 e y hy
theorem SI.no {g : Gr} (ok : GOk g) {p : Nat} {seen : Nat → Bool} (hp : p < g.n) (h : SI g p (g.L p) seen [] g.n 0) : ¬ OnC g p := by
  rintro ⟨k, x, ⟨i, hi, rfl⟩, hw⟩
  have := hw.closed (P := fun y => y < g.n ∧ seen y = true) (fun a b ha e => ⟨e.lt ok ha.1, (h.ex a ha.1 ha.2 (by simp)).2 (by omega) b e⟩) ⟨(ok.rng p hp i hi).1, h.pp i hi⟩
  exact (h.ex p hp this.2 (by simp)).1 rfl

/-- So many places are not seen yet. -/
def uns (seen : Nat → Bool) (n : Nat) : Nat := sumTo (fun x => if seen x then 0 else 1) n
theorem uns_start : ∀ n, uns (fun _ => false) n = n
  | 0 => rfl
  | n + 1 => by
    have := uns_start n
    unfold uns at this ⊢
    simp only [sumTo, this]; rfl
theorem uns_push {seen : Nat → Bool} {x : Nat} (hs : seen x = false) : ∀ {n : Nat}, x < n → uns (upd seen x true) n + 1 = uns seen n
  | 0, h => by omega
  | n + 1, h => by
    unfold uns
    simp only [sumTo]
    by_cases e : x = n
    · subst e
      rw [sumTo_congr (f := fun y => if upd seen x true y = true then 0 else 1) (f' := fun y => if seen y = true then 0 else 1) (fun y hy => by simp only [upd_ne seen x true (show y ≠ x by omega)])]
      simp [upd_same, hs]
    · have := uns_push hs (n := n) (by omega)
      unfold uns at this
      simp only [upd_ne seen x true (show n ≠ x by omega)]
      omega

/-! ### Its memory -/

structure SM (w wr : World) (n : Nat) (seen : Nat → Bool) (S : List Nat) (vS : Value) : Prop where
  since : w.Since w.heap.size wr
  sn : wr.rowIs w.heap.size 4 n (fun j => .bool (seen j))
  st : wr.ownsRow (w.heap.size + 1) 3 1 vS S.length (ivals S)

section
variable {w wr : World} {n : Nat} {seen : Nat → Bool} {S : List Nat} {vS : Value}
theorem SM.start (w : World) (n : Nat) : SM w (w.alloc (.cells (madeCells #[.bool false] n) 4)) n (fun _ => false) [] (.slice none 0 0) :=
  ⟨(World.Since.refl _ _).alloc (Nat.le_refl _) _, World.rowIs_made w _ n 4, World.ownsRow_nil _ _ _ _⟩
theorem SM.set (h : SM w wr n seen S vS) (x : Nat) (c : Bool) : SM w (wr.setCell ⟨w.heap.size, x, none⟩ (.bool c)) n (upd seen x c) S vS :=
  ⟨h.since.setCell (Nat.le_refl _) _, (h.sn.set x _).congr (fun j _ => upd_congr Value.bool seen x c j), own_below h.st (by show w.heap.size < _; omega) _⟩
theorem SM.alloc (h : SM w wr n seen S vS) (o : Obj) : SM w (wr.alloc o) n seen S vS := ⟨h.since.alloc h.since.size _, h.sn.alloc _, h.st.alloc _⟩
theorem SM.app (h : SM w wr n seen S vS) {w1 : World} {v' : Value} {z : Nat} (hown : w1.ownsRow (w.heap.size + 1) 3 1 v' (S.length + 1) (ivals S ++ [.int .i64 z])) (hg : wr.grownBy w1 vS.ownBlock) : SM w w1 n seen (z :: S) v' := by
  have hlt := h.sn.lt
  have hb : ∀ k, k < w.heap.size + 1 → w1.heap[k]? = wr.heap[k]? := fun k hk => hg.block k (by omega) (fun e => by
    have := (ownsRow_block h.st e.symm).1
    omega)
  refine ⟨h.since.grown hg h.since.size (fun k e => by have := (ownsRow_block h.st e).1; omega), h.sn.of_block (hb _ (by omega)), ?_⟩
  rw [ivals_cons, List.length_cons]
  exact hown
theorem SM.top {x : Nat} (h : SM w wr n seen (x :: S) vS) : ∃ gs cap, vS = .slice (some ⟨gs, 0, none⟩) (S.length + 1) cap ∧ S.length + 1 ≤ cap ∧ cap ≤ maxLen ∧ wr.cell? ⟨gs, S.length, none⟩ = some (.int .i64 x) ∧ SM w wr n seen S (.slice (some ⟨gs, 0, none⟩) S.length cap) := by
  have hst := h.st
  rw [ivals_cons, List.length_cons] at hst
  obtain ⟨gs, cap, hv, hb, _, hn, hm, _, hc, ho⟩ := own_last hst
  exact ⟨gs, cap, hv, hn, hm, hc, ⟨h.since, h.sn, ho⟩⟩
end

/-- A returned Bool that tells P. -/
def RetI (P : Prop) (e : Ending) : Prop := ∃ b, e = .returned (.bool b) ∧ (b = true ↔ P)

end Go.Proofs.Qxb6600028a
