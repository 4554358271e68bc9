import Derived.Test.Qxb6600028aCopy
import Derived.Test.Qxb6600028aSlots
namespace Go.Proofs.Qxb6600028a
open Go.RowKit Go.Deep
theorem Try.info43 : (Try.prog.info? 43).map (fun i => (i.zero, i.size, i.bytes)) = some (some (.agg #[.int .i64 0, .int .i64 0]), 2, 16) := by kernel_rfl
theorem Try.cells43 : Try.prog.cellsOf 43 = 2 := by kernel_rfl


/-! ### Small laws on owned rows -/

theorem ownsRow_of_block {w w' : World} {base e size : Nat} {v : Value} {n : Nat} {xs : List Value} (h : w.ownsRow base e size v n xs) (hb : ∀ k, v.ownBlock = some k → w'.heap[k]? = w.heap[k]?) : w'.ownsRow base e size v n xs := by
  obtain ⟨h1, h2⟩ := h
  refine ⟨h1, ?_⟩
  rcases h2 with h2 | ⟨g, cap, cur, hv, hg, hh, rest⟩
  · exact Or.inl h2
  · exact Or.inr ⟨g, cap, cur, hv, hg, by rw [hb g (by rw [hv]; rfl)]; exact hh, rest⟩

theorem ownsRow_block {w : World} {base e size : Nat} {v : Value} {n : Nat} {xs : List Value} (h : w.ownsRow base e size v n xs) {k : Nat} (hk : v.ownBlock = some k) : base ≤ k ∧ k < w.heap.size ∧ ∃ cur, w.heap[k]? = some (.cells cur e (0, 0)) := by
  rcases h.2 with ⟨h2, _⟩ | ⟨g, cap, cur, hv, hg, hh, _⟩
  · rw [h2] at hk; simp [Value.ownBlock] at hk
  · rw [hv] at hk
    simp only [Value.ownBlock, Option.some.injEq] at hk
    subst hk
    obtain ⟨hlt, _⟩ := Array.getElem?_eq_some_iff.1 hh
    exact ⟨hg, hlt, cur, hh⟩

/-- The cells of a block that has just been laid. -/
theorem cells_new (w : World) (k : Nat) (hk : k = w.heap.size) (xs : List Value) (t : TypeId) : ∀ j u, xs[j]? = some u → (w.alloc (.cells xs.toArray t)).cell? ((⟨k, 0, none⟩ : Addr).add j) = some u := by
  intro j u hj
  subst hk
  have e : ((⟨w.heap.size, 0, none⟩ : Addr).add j) = ⟨w.heap.size, j, none⟩ := by
    unfold Addr.add
    split
    · subst_vars; rfl
    · simp
  rw [e, World.cell?_alloc_at _ _ _ _ rfl]
  simpa using hj

theorem cell_setCell_ne (W : World) (b i j : Nat) (x : Value) (h : ¬ i = j) : (W.setCell ⟨b, j, none⟩ x).cell? ⟨b, i, none⟩ = W.cell? ⟨b, i, none⟩ := by
  unfold World.cell? World.setCell
  simp only [Array.getElem?_modify]
  simp only [if_true]
  cases hb : W.heap[b]? with
  | none => rfl
  | some o =>
    cases o <;> simp [show ¬ j = i from fun e => h e.symm]

/-- Two owned rows of different element types lie apart. -/
theorem ownsRow_apart {w : World} {base e size : Nat} {v : Value} {n : Nat} {xs : List Value} {base' e' size' : Nat} {v' : Value} {n' : Nat} {xs' : List Value}
    (h : w.ownsRow base e size v n xs) (h' : w.ownsRow base' e' size' v' n' xs') (hne : e ≠ e') {k : Nat} (hk : v.ownBlock = some k) : v'.ownBlock ≠ some k := by
  intro hk'
  obtain ⟨_, _, c1, h1⟩ := ownsRow_block h hk
  obtain ⟨_, _, c2, h2⟩ := ownsRow_block h' hk'
  rw [h1] at h2
  simp only [Option.some.injEq, Obj.cells.injEq] at h2
  exact hne h2.2.1

theorem own_empty {w : World} {base e size : Nat} {v : Value} {xs : List Value} (h : w.ownsRow base e size v 0 xs) : ∃ ao cap, v = .slice ao 0 cap := by
  rcases h.2 with ⟨h, _⟩ | ⟨g, cap, _, h, _⟩
  · exact ⟨_, _, h⟩
  · exact ⟨_, _, h⟩

/-- The last element of an owned row of one-cell elements. -/
theorem own_last {w : World} {base e : Nat} {v : Value} {k : Nat} {xs : List Value} {x : Value} (h : w.ownsRow base e 1 v (k + 1) (xs ++ [x])) :
    ∃ g cap, v = .slice (some ⟨g, 0, none⟩) (k + 1) cap ∧ base ≤ g ∧ g < w.heap.size ∧ k + 1 ≤ cap ∧ cap ≤ maxLen ∧ xs.length = k ∧ w.cell? ⟨g, k, none⟩ = some x ∧ w.ownsRow base e 1 (.slice (some ⟨g, 0, none⟩) k cap) k xs := by
  have hl := h.1
  simp only [List.length_append, List.length_cons, List.length_nil, Nat.mul_one] at hl
  have hl' : xs.length = k := by omega
  rcases h.2 with ⟨_, h2⟩ | ⟨g, cap, cur, hv, hb, hh, hn, hm, hsz, htake⟩
  · omega
  · rw [hv] at h
    obtain ⟨hlt, _⟩ := Array.getElem?_eq_some_iff.1 hh
    refine ⟨g, cap, hv, hb, hlt, hn, hm, hl', ?_, ownsRow_pop (last := [x]) (by omega) h⟩
    rw [h.cellAt k (by omega), List.getElem?_append_right (by omega), hl', Nat.sub_self]
    rfl

/-- The cells of a slice of places, its last element first in the list. -/
def ivals (S : List Nat) : List Value := S.reverse.map fun x : Nat => Value.int .i64 (x : Int)
/-- The cells of a slice of pairs, its last element first in the list. -/
def pvals (C : List (Nat × Nat)) : List Value := C.reverse.flatMap fun p : Nat × Nat => [Value.int .i64 (p.1 : Int), Value.int .i64 (p.2 : Int)]
theorem ivals_cons (x : Nat) (S : List Nat) : ivals (x :: S) = ivals S ++ [Value.int .i64 (x : Int)] := by
  unfold ivals; rw [List.reverse_cons, List.map_append]; rfl
theorem pvals_cons (v a : Nat) (C : List (Nat × Nat)) : pvals ((v, a) :: C) = pvals C ++ [Value.int .i64 (v : Int), Value.int .i64 (a : Int)] := by
  unfold pvals; rw [List.reverse_cons, List.flatMap_append]; rfl
theorem ivals_len (S : List Nat) : (ivals S).length = S.length := by unfold ivals; simp
theorem pvals_len (C : List (Nat × Nat)) : (pvals C).length = C.length * 2 := by
  induction C with
  | nil => rfl
  | cons x l ih =>
    obtain ⟨v, a⟩ := x
    rw [pvals_cons, List.length_append, ih]
    simp only [List.length_cons, List.length_nil]
    omega

/-! ### lowestOnCycle's own memory -/

/-- What the call's own memory holds, the calls' slice apart. -/
structure TM (w wr : World) (nv sv : Value) (n : Nat) (idx low : Nat → Int) (onS : Nat → Bool) (S : List Nat) (vS : Value) : Prop where
  since : w.Since w.heap.size wr
  box : wr.rowIs w.heap.size 31 2 (fun i => if i = 0 then nv else sv)
  ix : wr.rowIs (w.heap.size + 1) 3 n (fun j => .int .i64 (idx j))
  lw : wr.rowIs (w.heap.size + 1 + 1) 3 n (fun j => .int .i64 (low j))
  os : wr.rowIs (w.heap.size + 1 + 1 + 1) 4 n (fun j => .bool (onS j))
  st : wr.ownsRow (w.heap.size + 4) 3 1 vS S.length (ivals S)

/-- The calls' slice. -/
def CA (w wr : World) (vC : Value) (C : List (Nat × Nat)) : Prop :=
  wr.ownsRow (w.heap.size + 4) 43 2 vC C.length (pvals C)

section
variable {w wr : World} {nv sv : Value} {n : Nat} {idx low : Nat → Int} {onS : Nat → Bool} {S : List Nat} {vS vC : Value} {C : List (Nat × Nat)}

theorem TM.other (h : TM w wr nv sv n idx low onS S vS) {w1 : World} (hs : w.Since w.heap.size w1) (hk : ∀ k, k < w.heap.size + 4 ∨ vS.ownBlock = some k → w.heap.size ≤ k → w1.heap[k]? = wr.heap[k]?) : TM w w1 nv sv n idx low onS S vS :=
  ⟨hs, h.box.of_block (hk _ (Or.inl (by omega)) (by omega)), h.ix.of_block (hk _ (Or.inl (by omega)) (by omega)), h.lw.of_block (hk _ (Or.inl (by omega)) (by omega)), h.os.of_block (hk _ (Or.inl (by omega)) (by omega)),
    ownsRow_of_block h.st (fun k e => hk k (Or.inr e) (by have := (ownsRow_block h.st e).1; omega))⟩

theorem TM.drewN (h : TM w wr nv sv n idx low onS S vS) (d : Nat) : TM w (wr.drewN d) nv sv n idx low onS S vS := h.other (since_drewN h.since d) (fun _ _ _ => rfl)
theorem CA.drewN (h : CA w wr vC C) (d : Nat) : CA w (wr.drewN d) vC C := h
theorem TM.alloc (h : TM w wr nv sv n idx low onS S vS) (o : Obj) : TM w (wr.alloc o) nv sv n idx low onS S vS :=
  h.other (h.since.alloc h.since.size o) (fun k hk _ => blk_alloc_lt _ _ _ (by
    rcases hk with hk | hk
    · have := h.os.lt; omega
    · exact (ownsRow_block h.st hk).2.1))
theorem CA.alloc (h : CA w wr vC C) (o : Obj) : CA w (wr.alloc o) vC C := World.ownsRow.alloc h o

theorem upd_congr {α : Type} {β : Type} (F : α → β) (f : Nat → α) (i : Nat) (v : α) (j : Nat) : (if j = i then F v else F (f j)) = F (upd f i v j) := by
  unfold upd; split <;> rfl

theorem own_below {base e size : Nat} {v : Value} {m : Nat} {xs : List Value} (h : wr.ownsRow base e size v m xs) {a : Addr} (ha : a.block < base) (u : Value) : (wr.setCell a u).ownsRow base e size v m xs :=
  ownsRow_of_block h (fun k hk => blk_setCell_other _ _ _ _ (by have := (ownsRow_block h hk).1; omega))

theorem TM.setIx (h : TM w wr nv sv n idx low onS S vS) (z : Nat) (c : Int) : TM w (wr.setCell ⟨w.heap.size + 1, z, none⟩ (.int .i64 c)) nv sv n (upd idx z c) low onS S vS :=
  ⟨h.since.setCell (by show w.heap.size ≤ w.heap.size + 1; omega) _, h.box.setOther (by show w.heap.size ≠ w.heap.size + 1; omega) _, (h.ix.set z _).congr (fun j _ => upd_congr (Value.int .i64) idx z c j),
    h.lw.setOther (by show w.heap.size + 1 + 1 ≠ w.heap.size + 1; omega) _, h.os.setOther (by show w.heap.size + 1 + 1 + 1 ≠ w.heap.size + 1; omega) _, own_below h.st (by show w.heap.size + 1 < _; omega) _⟩
theorem TM.setLw (h : TM w wr nv sv n idx low onS S vS) (z : Nat) (c : Int) : TM w (wr.setCell ⟨w.heap.size + 1 + 1, z, none⟩ (.int .i64 c)) nv sv n idx (upd low z c) onS S vS :=
  ⟨h.since.setCell (by show w.heap.size ≤ w.heap.size + 1 + 1; omega) _, h.box.setOther (by show w.heap.size ≠ w.heap.size + 1 + 1; omega) _, h.ix.setOther (by show w.heap.size + 1 ≠ w.heap.size + 1 + 1; omega) _,
    (h.lw.set z _).congr (fun j _ => upd_congr (Value.int .i64) low z c j), h.os.setOther (by show w.heap.size + 1 + 1 + 1 ≠ w.heap.size + 1 + 1; omega) _, own_below h.st (by show w.heap.size + 1 + 1 < _; omega) _⟩
theorem TM.setOs (h : TM w wr nv sv n idx low onS S vS) (z : Nat) (c : Bool) : TM w (wr.setCell ⟨w.heap.size + 1 + 1 + 1, z, none⟩ (.bool c)) nv sv n idx low (upd onS z c) S vS :=
  ⟨h.since.setCell (by show w.heap.size ≤ w.heap.size + 1 + 1 + 1; omega) _, h.box.setOther (by show w.heap.size ≠ w.heap.size + 1 + 1 + 1; omega) _, h.ix.setOther (by show w.heap.size + 1 ≠ w.heap.size + 1 + 1 + 1; omega) _,
    h.lw.setOther (by show w.heap.size + 1 + 1 ≠ w.heap.size + 1 + 1 + 1; omega) _, (h.os.set z _).congr (fun j _ => upd_congr Value.bool onS z c j), own_below h.st (by show w.heap.size + 1 + 1 + 1 < _; omega) _⟩
theorem CA.below (h : CA w wr vC C) {a : Addr} (ha : a.block < w.heap.size + 4) (u : Value) : CA w (wr.setCell a u) vC C := own_below h ha u

/-- The topmost call's two cells. -/
theorem CA.top {v a : Nat} {cs : List (Nat × Nat)} (h : CA w wr vC ((v, a) :: cs)) :
    ∃ gc cap, vC = .slice (some ⟨gc, 0, none⟩) (cs.length + 1) cap ∧ w.heap.size + 4 ≤ gc ∧ gc < wr.heap.size ∧ cs.length + 1 ≤ cap ∧ cap ≤ maxLen ∧ wr.cell? ⟨gc, cs.length * 2, none⟩ = some (.int .i64 v) ∧ wr.cell? ⟨gc, cs.length * 2 + 1, none⟩ = some (.int .i64 a) ∧ (∀ j, wr.frozen? ⟨gc, j, none⟩ = false) ∧ CA w wr (.slice (some ⟨gc, 0, none⟩) cs.length cap) cs := by
  have h0 := h
  unfold CA at h
  rw [pvals_cons] at h
  rcases h.2 with ⟨_, h2⟩ | ⟨gc, cap, cur, hv, hb, hh, hn, hm, hsz, htake⟩
  · simp at h2
  · rw [hv] at h
    have hcell : ∀ j, j < (cs.length + 1) * 2 → wr.cell? ⟨gc, j, none⟩ = (pvals cs ++ [Value.int .i64 (v : Int), Value.int .i64 (a : Int)])[j]? := fun j hj => h.cellAt j (by simpa using hj)
    refine ⟨gc, cap, hv, hb, ?_, hn, hm, ?_, ?_, fun j => h.frozenAt j, ?_⟩
    · obtain ⟨hlt, _⟩ := Array.getElem?_eq_some_iff.1 hh
      exact hlt
    · rw [hcell _ (by omega), List.getElem?_append_right (by rw [pvals_len]; exact Nat.le_refl _), pvals_len, Nat.sub_self]
      rfl
    · rw [hcell _ (by omega), List.getElem?_append_right (by rw [pvals_len]; omega), pvals_len, show cs.length * 2 + 1 - cs.length * 2 = 1 by omega]
      rfl
    · exact ownsRow_pop (pvals_len cs) h

/-- 'f.arc++'. -/
theorem CA.setArc {v a gc cap : Nat} {cs : List (Nat × Nat)} (h : CA w wr (.slice (some ⟨gc, 0, none⟩) (cs.length + 1) cap) ((v, a) :: cs)) (b : Nat) (x : Int) (hx : x = (b : Int)) :
    CA w (wr.setCell ⟨gc, cs.length * 2 + 1, none⟩ (.int .i64 x)) (.slice (some ⟨gc, 0, none⟩) (cs.length + 1) cap) ((v, b) :: cs) := by
  subst hx
  unfold CA at h ⊢
  rw [pvals_cons] at h ⊢
  have := (h.stored (cs.length * 2 + 1) (.int .i64 b)).1
  rw [List.set_append_right _ _ (by rw [pvals_len]; omega), pvals_len, show cs.length * 2 + 1 - cs.length * 2 = 1 by omega] at this
  exact this

/-- A store into the calls' block leaves the rest. -/
theorem TM.setCalls (h : TM w wr nv sv n idx low onS S vS) {gc m cap : Nat} (hc : CA w wr (.slice (some ⟨gc, 0, none⟩) m cap) C) (j : Nat) (u : Value) : TM w (wr.setCell ⟨gc, j, none⟩ u) nv sv n idx low onS S vS := by
  have hg : w.heap.size + 4 ≤ gc := (ownsRow_block hc rfl).1
  refine h.other (h.since.setCell (by show w.heap.size ≤ gc; omega) _) (fun k hk _ => blk_setCell_other _ _ _ _ ?_)
  show k ≠ gc
  rcases hk with hk | hk
  · omega
  · intro e
    exact ownsRow_apart h.st hc (by decide) hk (by rw [e]; rfl)

/-- 'stack = append(stack, z)'. -/
theorem TM.app (h : TM w wr nv sv n idx low onS S vS) {w1 : World} {v' : Value} {z : Nat} (hown : w1.ownsRow (w.heap.size + 4) 3 1 v' (S.length + 1) (ivals S ++ [.int .i64 z])) (hg : wr.grownBy w1 vS.ownBlock) :
    TM w w1 nv sv n idx low onS (z :: S) v' := by
  have hlt := h.os.lt
  have hb : ∀ k, k < w.heap.size + 4 → w1.heap[k]? = wr.heap[k]? := fun k hk => hg.block k (by omega) (fun e => by
    have := (ownsRow_block h.st e.symm).1
    omega)
  refine ⟨h.since.grown hg h.since.size (fun k e => by have := (ownsRow_block h.st e).1; omega), h.box.of_block (hb _ (by omega)), h.ix.of_block (hb _ (by omega)), h.lw.of_block (hb _ (by omega)), h.os.of_block (hb _ (by omega)), ?_⟩
  rw [ivals_cons, List.length_cons]
  exact hown
theorem CA.stackApp (h : CA w wr vC C) (hM : TM w wr nv sv n idx low onS S vS) {w1 : World} (hg : wr.grownBy w1 vS.ownBlock) : CA w w1 vC C :=
  ownsRow_of_block h (fun k hk => hg.block k (ownsRow_block h hk).2.1 (fun e => ownsRow_apart hM.st h (by decide) e.symm hk))

/-- The top of the stack. -/
theorem TM.top {x : Nat} (h : TM w wr nv sv n idx low onS (x :: S) vS) : ∃ gs cap, vS = .slice (some ⟨gs, 0, none⟩) (S.length + 1) cap ∧ S.length + 1 ≤ cap ∧ cap ≤ maxLen ∧ w.heap.size + 4 ≤ gs ∧ wr.cell? ⟨gs, S.length, none⟩ = some (.int .i64 x) ∧ TM w wr nv sv n idx low onS S (.slice (some ⟨gs, 0, none⟩) S.length cap) := by
  have hst := h.st
  rw [ivals_cons, List.length_cons] at hst
  obtain ⟨gs, cap, hv, hb, _, hn, hm, _, hc, ho⟩ := own_last hst
  exact ⟨gs, cap, hv, hn, hm, hb, hc, ⟨h.since, h.box, h.ix, h.lw, h.os, ho⟩⟩

theorem TM.congrOs (h : TM w wr nv sv n idx low onS S vS) {onS' : Nat → Bool} (e : ∀ j, onS j = onS' j) : TM w wr nv sv n idx low onS' S vS :=
  ⟨h.since, h.box, h.ix, h.lw, h.os.congr (fun j _ => by rw [e j]), h.st⟩

/-- 'calls = append(calls, frame{v: z})'. -/
theorem CA.app {w1 : World} {v' : Value} {z : Nat} (hown : w1.ownsRow (w.heap.size + 4) 43 2 v' (C.length + 1) (pvals C ++ [.int .i64 z, .int .i64 0])) :
    CA w w1 v' ((z, 0) :: C) := by
  unfold CA
  rw [pvals_cons, List.length_cons]
  exact hown
theorem TM.callsApp (h : TM w wr nv sv n idx low onS S vS) (hc : CA w wr vC C) {w1 : World} (hg : wr.grownBy w1 vC.ownBlock) : TM w w1 nv sv n idx low onS S vS := by
  have hlt := h.os.lt
  refine h.other (h.since.grown hg h.since.size (fun k e => by have := (ownsRow_block hc e).1; omega)) (fun k hk _ => hg.block k ?_ (fun e => ?_))
  · rcases hk with hk | hk
    · omega
    · exact (ownsRow_block h.st hk).2.1
  · rcases hk with hk | hk
    · have := (ownsRow_block hc e.symm).1; omega
    · exact ownsRow_apart h.st hc (by decide) hk e.symm

end

structure TM0 (w wr : World) (nv sv : Value) (n k : Nat) : Prop where
  since : w.Since w.heap.size wr
  box : wr.rowIs w.heap.size 31 2 (fun i => if i = 0 then nv else sv)
  ix : wr.rowIs (w.heap.size + 1) 3 n (fun j => .int .i64 (if j < k then -1 else 0))
  lw : wr.rowIs (w.heap.size + 1 + 1) 3 n (fun _ => .int .i64 0)
  os : wr.rowIs (w.heap.size + 1 + 1 + 1) 4 n (fun _ => .bool false)

theorem TM0.start (w : World) (nv sv : Value) (n : Nat) : TM0 w ((((w.alloc (Obj.cells #[nv, sv] 31)).alloc (Obj.cells (madeCells #[Value.int IntKind.i64 0] n) 3)).alloc
      (Obj.cells (madeCells #[Value.int IntKind.i64 0] n) 3)).alloc (Obj.cells (madeCells #[Value.bool false] n) 4)) nv sv n 0 := by
  have h1 := World.rowIs_alloc w #[nv, sv] 31 (fun i => if i = 0 then nv else sv) (fun i hi => by
    match i, hi with
    | 0, _ => rfl
    | 1, _ => rfl
    | i + 2, hi => exact absurd hi (by simp))
  have h2 := World.rowIs_made (w.alloc (Obj.cells #[nv, sv] 31)) (Value.int IntKind.i64 0) n 3
  have h3 := World.rowIs_made ((w.alloc (Obj.cells #[nv, sv] 31)).alloc (Obj.cells (madeCells #[Value.int IntKind.i64 0] n) 3)) (Value.int IntKind.i64 0) n 3
  have h4 := World.rowIs_made (((w.alloc (Obj.cells #[nv, sv] 31)).alloc (Obj.cells (madeCells #[Value.int IntKind.i64 0] n) 3)).alloc (Obj.cells (madeCells #[Value.int IntKind.i64 0] n) 3)) (Value.bool false) n 4
  rw [nblk_alloc] at h2
  rw [nblk_alloc, nblk_alloc] at h3
  rw [nblk_alloc, nblk_alloc, nblk_alloc] at h4
  refine ⟨?_, ((h1.alloc _).alloc _).alloc _, ((h2.alloc _).alloc _).congr (fun _ _ => by simp), h3.alloc _, h4⟩
  refine (((((World.Since.refl _ _).alloc (Nat.le_refl _) _).alloc ?_ _).alloc ?_ _).alloc ?_ _) <;> simp only [nblk_alloc] <;> omega

theorem TM0.step {w wr : World} {nv sv : Value} {n k : Nat} (h : TM0 w wr nv sv n k) : TM0 w (wr.setCell ⟨w.heap.size + 1, k, none⟩ (.int .i64 (-1))) nv sv n (k + 1) := by
  refine ⟨h.since.setCell (by show w.heap.size ≤ w.heap.size + 1; omega) _, h.box.setOther (by show w.heap.size ≠ w.heap.size + 1; omega) _, (h.ix.set k _).congr (fun j _ => ?_),
    h.lw.setOther (by show w.heap.size + 1 + 1 ≠ w.heap.size + 1; omega) _, h.os.setOther (by show w.heap.size + 1 + 1 + 1 ≠ w.heap.size + 1; omega) _⟩
  by_cases e : j = k
  · subst e; simp
  · rw [if_neg e]
    by_cases hlt : j < k
    · rw [if_pos hlt, if_pos (by omega)]
    · rw [if_neg hlt, if_neg (by omega)]

theorem TM0.done {w wr : World} {nv sv : Value} {n : Nat} (h : TM0 w wr nv sv n n) : TM w wr nv sv n TS.init.idx TS.init.low TS.init.onS [] (.slice none 0 0) :=
  ⟨h.since, h.box, h.ix.congr (fun j hj => by rw [if_pos hj]; rfl), h.lw.congr (fun _ _ => rfl), h.os.congr (fun _ _ => rfl), World.ownsRow_nil _ _ _ _⟩


end Go.Proofs.Qxb6600028a
