import Derived.Test.Qxb6600028aPred
import Derived.ArgAppend
namespace Go.Proofs.Qxb6600028a
open Go.RowKit Go.Deep

/-- The slice of places ⟨g, off⟩, T.length, cap is the call's own and reads as T; its room is its own too. -/
def QAt (w : World) (base g off cap : Nat) (T : List Nat) : Prop :=
  ∃ cur : Array Value, base ≤ g ∧ w.heap[g]? = some (.cells cur 3 (0, 0)) ∧ T.length ≤ cap ∧ cap ≤ maxLen ∧ off + cap ≤ cur.size ∧ ∀ (j x : Nat), T[j]? = some x → cur[off + j]? = some (.int .i64 (x : Int))

section
variable {w : World} {base g off cap : Nat} {T : List Nat}

theorem QAt.lt (h : QAt w base g off cap T) : base ≤ g ∧ g < w.heap.size := by
  obtain ⟨cur, hb, hh, _⟩ := h
  obtain ⟨hlt, _⟩ := Array.getElem?_eq_some_iff.1 hh
  exact ⟨hb, hlt⟩
theorem QAt.caps (h : QAt w base g off cap T) : T.length ≤ cap ∧ cap ≤ maxLen := by
  obtain ⟨cur, _, _, h1, h2, _⟩ := h
  exact ⟨h1, h2⟩
theorem QAt.of_block {w' : World} (h : QAt w base g off cap T) (e : w'.heap[g]? = w.heap[g]?) : QAt w' base g off cap T := by
  obtain ⟨cur, hb, hh, rest⟩ := h
  exact ⟨cur, hb, e.trans hh, rest⟩
theorem QAt.cell (h : QAt w base g off cap T) {j x : Nat} (hx : T[j]? = some x) : w.cell? ⟨g, off + j, none⟩ = some (.int .i64 (x : Int)) := by
  obtain ⟨cur, _, hh, _, _, _, hc⟩ := h
  simp [World.cell?, hh, hc j x hx]
theorem QAt.spare (h : QAt w base g off cap T) {j : Nat} (hj : j < cap) : (w.cell? ⟨g, off + j, none⟩).isSome = true ∧ w.frozen? ⟨g, off + j, none⟩ = false := by
  obtain ⟨cur, _, hh, _, _, hsz, _⟩ := h
  have : off + j < cur.size := by omega
  refine ⟨?_, by simp [World.frozen?, hh]⟩
  simp [World.cell?, hh, Array.getElem?_eq_getElem this]

/-- 'queue = queue[1:]'. -/
theorem QAt.pop {x : Nat} (h : QAt w base g off cap (x :: T)) : (cap = 1 → QAt w base g off 0 T) ∧ (cap ≠ 1 → QAt w base g (off + 1) (cap - 1) T) := by
  obtain ⟨cur, hb, hh, hl, hm, hsz, hc⟩ := h
  rw [List.length_cons] at hl
  constructor
  · intro e
    have hT : T = [] := List.eq_nil_of_length_eq_zero (by omega)
    subst hT
    exact ⟨cur, hb, hh, Nat.le_refl _, by unfold maxLen; omega, by omega, fun j y hy => by simp at hy⟩
  · intro e
    refine ⟨cur, hb, hh, by omega, by omega, by omega, fun j y hy => ?_⟩
    have := hc (j + 1) y (by simpa using hy)
    rw [show off + 1 + j = off + (j + 1) by omega]
    exact this

theorem QAt.room (h : QAt w base g off cap T) (hroom : T.length + 1 ≤ cap) (x : Nat) : QAt (w.setCells g (off + T.length) [.int .i64 (x : Int)]) base g off cap (T ++ [x]) ∧ w.grownBy (w.setCells g (off + T.length) [.int .i64 (x : Int)]) (some g) := by
  have e : w.setCells g (off + T.length) [.int .i64 (x : Int)] = w.setCell ⟨g, off + T.length, none⟩ (.int .i64 (x : Int)) := rfl
  rw [e]
  obtain ⟨cur, hb, hh, hl, hm, hsz, hc⟩ := h
  refine ⟨⟨cur.setIfInBounds (off + T.length) (.int .i64 (x : Int)), hb, heap_setCell_same w g _ cur 3 _ hh, by rw [List.length_append]; exact hroom, hm, by simpa using hsz, fun j y hy => ?_⟩, ⟨rfl, rfl, rfl, by rw [nblk_setCell]; exact Nat.le_refl _, fun k _ hk => blk_setCell_other _ _ _ _ (fun e' => hk (by rw [e']))⟩⟩
  rw [Array.getElem?_setIfInBounds]
  by_cases ej : j < T.length
  · rw [List.getElem?_append_left ej] at hy
    rw [if_neg (by omega)]
    exact hc j y hy
  · rw [List.getElem?_append_right (by omega)] at hy
    have e0 : j - T.length = 0 := by
      by_cases e0 : j - T.length = 0
      · exact e0
      · rw [List.getElem?_eq_none (by simp; omega)] at hy; simp at hy
    rw [e0] at hy
    simp at hy
    subst hy
    rw [if_pos (by omega), if_pos (by omega)]
end

theorem QAt.of_own {w : World} {base k : Nat} {v : Value} {T : List Nat} (h : w.ownsRow k 3 1 v T.length (fvals T)) (hT : 0 < T.length) (hb : base ≤ k) : ∃ g cap, v = .slice (some ⟨g, 0, none⟩) T.length cap ∧ QAt w base g 0 cap T := by
  rcases h.2 with ⟨_, h2⟩ | ⟨g, cap, cur, hv, hg, hh, hn, hm, hsz, htake⟩
  · omega
  · refine ⟨g, cap, hv, cur, by omega, hh, hn, hm, by omega, fun j x hx => ?_⟩
    rw [Nat.zero_add]
    have hj : j < T.length := by
      rcases Nat.lt_or_ge j T.length with h' | h'
      · exact h'
      · rw [List.getElem?_eq_none h'] at hx; simp at hx
    have h1 : (cur.toList.take (T.length * 1))[j]? = (fvals T)[j]? := by rw [htake]
    rw [List.getElem?_take, if_pos (by omega)] at h1
    rw [← Array.getElem?_toList, h1]
    unfold fvals
    rw [List.getElem?_map, hx]
    rfl

/-- 'queue = append(queue, x)'. -/
theorem wpList_append_q {P : Program} (w : World) {ops : Array Oper} {rest : List Oper} {o : Oper} {a : Act} {Q : Exit → Act → World → Prop}
    (hg : o.guard = none) (s x : Operand) (t : TypeId) (hop : o.op = Op.call { callee := Callee.builtin Builtin.append, args := #[s, x], argTypes := #[t, t] })
    (i : TypeInfo) (h1 : P.underlying t = some (.slice 3)) (h2 : P.info? 3 = some i) (h3 : i.zero = some (.int .i64 0)) (h4 : i.size = 1) (h5 : i.bytes = 8)
    (base g off cap : Nat) (T : List Nat) (len : Nat) (hlen : len = T.length) (hs : a.eval s = .slice (some ⟨g, off, none⟩) len cap) (hq : QAt w base g off cap T)
    (ad : Addr) (c : Nat) (y : Nat) (hx : a.eval x = .slice (some ad) 1 c) (hc : ∀ j u, [Value.int .i64 (y : Int)][j]? = some u → w.cell? (ad.add j) = some u)
    (b1 : T.length ≤ 1048576)
    (h : ∀ g' off' cap' w', QAt w' base g' off' cap' (T ++ [y]) → w.grownBy w' (some g) → wpList P ops Q rest (a.put o.dst (.slice (some ⟨g', off', none⟩) (len + 1) cap')) w') :
    wpList P ops Q (o :: rest) a w := by
  subst hlen
  refine wpList_append_arg w hg s x t hop 3 i (.int .i64 0) 1 8 h1 h2 h3 h4 h5 rfl (by decide) g off T.length cap (fvals T) hs (by rw [fvals_len]; omega) (fun j u hj => ?_) ad 1 c [.int .i64 (y : Int)] hx rfl hc
    (fun u hu => by simp at hu; subst hu; rfl) (fun hroom j hj => ?_) (by unfold maxLen; omega) (by omega) (fun hroom => ?_) (fun _ v' w' hown hgrow => ?_)
  · unfold fvals at hj
    rw [List.getElem?_map] at hj
    cases hT : T[j]? with
    | none => rw [hT] at hj; simp at hj
    | some z =>
      rw [hT] at hj
      simp at hj
      rw [← hj]
      exact hq.cell hT
  · have hj' : j = 0 := by simp at hj; exact hj
    subst hj'
    have := hq.spare (j := T.length) (by omega)
    rw [Nat.mul_one, Nat.add_zero]
    exact this
  · have := hq.room hroom y
    rw [Nat.mul_one]
    exact h g off cap _ this.1 this.2
  · have hlen : (T ++ [y]).length = T.length + 1 := by rw [List.length_append]; rfl
    rw [← fvals_snoc, ← hlen] at hown
    obtain ⟨g', cap', hv, hq'⟩ := QAt.of_own (base := base) hown (by rw [hlen]; omega) (by have := hq.lt; omega)
    rw [hv, hlen]
    exact h g' 0 cap' w' hq' ⟨hgrow.os, hgrow.tape, hgrow.output, hgrow.size, fun k hk _ => hgrow.block k hk (by simp)⟩

/-- The distances and the queue. -/
structure CM (wc wr : World) (n : Nat) (D : Nat → Int) (T : List Nat) (g off cap : Nat) : Prop where
  since : wc.Since wc.heap.size wr
  ds : wr.rowIs wc.heap.size 3 n (fun j => .int .i64 (D j))
  qu : QAt wr (wc.heap.size + 1) g off cap T

section
variable {wc wr : World} {n : Nat} {D : Nat → Int} {T : List Nat} {g off cap : Nat}
theorem CM.set (h : CM wc wr n D T g off cap) (x : Nat) (c : Int) : CM wc (wr.setCell ⟨wc.heap.size, x, none⟩ (.int .i64 c)) n (upd D x c) T g off cap :=
  ⟨h.since.setCell (Nat.le_refl _) _, (h.ds.set x _).congr (fun j _ => upd_congr (Value.int .i64) D x c j), h.qu.of_block (blk_setCell_other _ _ _ _ (by have := h.qu.lt.1; show g ≠ wc.heap.size; omega))⟩
theorem CM.alloc (h : CM wc wr n D T g off cap) (o : Obj) : CM wc (wr.alloc o) n D T g off cap :=
  ⟨h.since.alloc h.since.size _, h.ds.alloc _, h.qu.of_block (blk_alloc_lt _ _ _ h.qu.lt.2)⟩
theorem CM.app (h : CM wc wr n D T g off cap) {w1 : World} {T' : List Nat} {g' off' cap' : Nat} (hq : QAt w1 (wc.heap.size + 1) g' off' cap' T') (hg : wr.grownBy w1 (some g)) : CM wc w1 n D T' g' off' cap' := by
  have h1 := h.qu.lt
  have h2 := h.ds.lt
  refine ⟨h.since.grown hg h.since.size (fun k e => by simp at e; omega), h.ds.of_block (hg.block _ h2 (fun e => by simp at e; omega)), hq⟩
end

end Go.Proofs.Qxb6600028a
