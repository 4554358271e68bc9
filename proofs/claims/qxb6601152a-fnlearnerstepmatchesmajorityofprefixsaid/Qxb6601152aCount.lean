import Derived.Test.Qxb6601152aQuorum
import Derived.Maps.AppendAt
import Derived.Maps.OwnSet
namespace Go.Proofs.Qxb6601152a
open Go.RowKit Go.Deep

/-- All blocks that were there and do not fulfil S are as they were. -/
structure Kp (w : World) (S : Nat → Prop) (w' : World) : Prop where
  since : w.Since 0 w'
  block : ∀ b, b < w.heap.size → ¬ S b → w'.heap[b]? = w.heap[b]?

namespace Kp
variable {w w' w'' : World} {S T : Nat → Prop}
theorem refl (w : World) (S : Nat → Prop) : Kp w S w := ⟨.refl _ _, fun _ _ _ => rfl⟩
theorem of_since (h : w.Since w.heap.size w') : Kp w S w' := ⟨since_le h (Nat.zero_le _), fun b hb _ => h.block b hb⟩
theorem grown {row : Option Nat} (h : w.grownBy w' row) (hS : ∀ b, row = some b → b < w.heap.size → S b) : Kp w S w' :=
  ⟨⟨h.os, h.tape, h.output, h.size, fun _ h => by omega⟩, fun b hb hn => h.block b hb (fun e => hn (hS b e.symm hb))⟩
theorem trans (h : Kp w S w') (k : Kp w' S w'') : Kp w S w'' :=
  ⟨h.since.trans k.since, fun b hb hn => by rw [k.block b (Nat.lt_of_lt_of_le hb h.since.size) hn, h.block b hb hn]⟩
theorem mono (h : Kp w S w') (hS : ∀ b, b < w.heap.size → S b → T b) : Kp w T w' := ⟨h.since, fun b hb hn => h.block b hb (fun s => hn (hS b hb s))⟩
theorem setCell (h : Kp w S w') {a : Addr} (ha : a.block < w.heap.size → S a.block) (v : Value) : Kp w S (w'.setCell a v) :=
  ⟨h.since.setCell (Nat.zero_le _) v, fun b hb hn => by
    rw [show (w'.setCell a v).heap[b]? = w'.heap[b]? from blk_setCell_other _ _ _ _ (fun e => hn (by subst e; exact ha hb))]
    exact h.block b hb hn⟩
theorem alloc (h : Kp w S w') (o : Obj) : Kp w S (w'.alloc o) :=
  ⟨h.since.alloc (Nat.zero_le _) o, fun b hb hn => by
    rw [show (w'.alloc o).heap[b]? = w'.heap[b]? from blk_alloc_lt _ _ _ (Nat.lt_of_lt_of_le hb h.since.size)]
    exact h.block b hb hn⟩
theorem drewN (h : Kp w S w') (n : Nat) : Kp w S (w'.drewN n) := ⟨since_drewN h.since n, h.block⟩
theorem toSince {B : Nat} (h : Kp w S w') (hB : B ≤ w.heap.size) (hS : ∀ b, S b → B ≤ b) : w.Since B w' :=
  ⟨h.since.os, h.since.tape, h.since.output, h.since.size, fun b hb => h.block b (by omega) (fun s => by have := hS b s; omega)⟩
theorem cell (h : Kp w S w') {a : Addr} {v : Value} (hc : w.cell? a = some v) (hn : ¬ S a.block) : w'.cell? a = some v := by
  rw [World.cell?_of_block (w := w) (a := a) (h.block _ (World.block_lt_of_cell? _ _ hc) hn)]; exact hc
end Kp

/-- The slice v is the call's own: the integers cs, at block lo or above. -/
def Own (w : World) (lo : Nat) (v : Value) (cs : List Int) : Prop := w.ownsRow lo 30 1 v cs.length (cs.map (Value.int .u64))

theorem Own.nil (w : World) (lo : Nat) : Own w lo (.slice none 0 0) [] := ⟨rfl, .inl ⟨rfl, rfl⟩⟩

theorem Own.shape {w : World} {lo : Nat} {v : Value} {cs : List Int} (h : Own w lo v cs) : ∃ ao cap, v = .slice ao cs.length cap := by
  rcases h.2 with ⟨rfl, e⟩ | ⟨g, cap, cur, rfl, _⟩
  · exact ⟨none, 0, by rw [e]⟩
  · exact ⟨_, cap, rfl⟩

theorem Own.ints {w : World} {lo : Nat} {v : Value} {cs : List Int} (h : Own w lo v cs) : IntsI w lo v cs.length (fun j => cs.getD j 0) := by
  rcases h.2 with ⟨rfl, e⟩ | ⟨g, cap, cur, rfl, hg, hb, hnc, _, hcs, htk⟩
  · exact ⟨none, 0, 0, 0, by rw [e], fun j hj => by omega⟩
  · refine ⟨_, g, 0, cap, rfl, fun j hj => ⟨rfl, hg, ?_⟩⟩
    have h1 : (cs.map (Value.int .u64))[j]? = some (.int .u64 (cs.getD j 0)) := by simp [hj]
    rw [← htk, List.getElem?_take, if_pos (by omega)] at h1
    simp [World.cell?, hb]
    simpa using h1

theorem Own.kept {w w' : World} {lo : Nat} {v : Value} {cs : List Int} (h : Own w lo v cs) (hb : ∀ g, v.ownBlock = some g → w'.heap[g]? = w.heap[g]?) : Own w' lo v cs := by
  refine ⟨h.1, ?_⟩
  rcases h.2 with h | ⟨g, cap, cur, rfl, hg, hbb, hnc, r⟩
  · exact .inl h
  · exact .inr ⟨g, cap, cur, rfl, hg, by rw [hb g rfl]; exact hbb, hnc, r⟩

theorem Own.lt {w : World} {lo : Nat} {v : Value} {cs : List Int} (h : Own w lo v cs) {g : Nat} (hg : v.ownBlock = some g) : lo ≤ g ∧ g < w.heap.size ∧ ∃ cur, w.heap[g]? = some (.cells cur 30 (0, 0)) := by
  rcases h.2 with ⟨rfl, e⟩ | ⟨g', cap, cur, rfl, hl, hbb, hnc, r⟩
  · simp [Value.ownBlock] at hg
  · simp only [Value.ownBlock, Option.some.injEq] at hg
    subst hg
    exact ⟨hl, (Array.getElem?_eq_some_iff.1 hbb).1, cur, hbb⟩

theorem has_getD (cs : List Int) (a : Int) : has cs.length (fun j => cs.getD j 0) a = decide (a ∈ cs) := by
  by_cases h : a ∈ cs
  · rw [decide_eq_true h]
    obtain ⟨i, hi, e⟩ := List.mem_iff_getElem.1 h
    exact (has_iff _ a _).2 ⟨i, hi, by simp [hi, e]⟩
  · rw [decide_eq_false h, Bool.eq_false_iff]
    intro hh
    obtain ⟨i, hi, e⟩ := (has_iff _ a _).1 hh
    apply h
    simp [hi] at e
    rw [← e]
    exact List.getElem_mem hi

/-- '(*Quorum).Count'. -/
theorem count (lo qb : Nat) (c : Value) (cs : List Int) (a : Int) (w : World) (hk : cs.length ≤ 1048575) (hlo : lo ≤ w.heap.size)
    (hq : w.cell? ⟨qb, 1, none⟩ = some c) (hf : w.frozen? ⟨qb, 1, none⟩ = false) (hC : Own w lo c cs) (hne : c.ownBlock ≠ some qb) :
    Calls Try.prog 18 #[.pointer (some ⟨qb, 0, none⟩), .int .u64 a] w fun e w' =>
      (a ∈ cs ∧ e = .returned (.bool false) ∧ w' = w) ∨
      (a ∉ cs ∧ e = .returned (.bool true) ∧ Kp w (fun b => b = qb ∨ some b = c.ownBlock) w' ∧ ∃ c', w'.cell? ⟨qb, 1, none⟩ = some c' ∧ Own w' lo c' (cs ++ [a]) ∧
        (c'.ownBlock = c.ownBlock ∨ ∃ g, c'.ownBlock = some g ∧ w.heap.size ≤ g) ∧ ∀ x, w.cell? ⟨qb, 0, none⟩ = some x → w'.cell? ⟨qb, 0, none⟩ = some x) := by
  have h21 := qhas qb c cs.length (fun j => cs.getD j 0) a w (by omega) hq ((hC.ints).low (Nat.zero_le _))
  rw [has_getD] at h21
  obtain ⟨ao, cap, rfl⟩ := hC.shape
  have hlt := World.block_lt_of_cell? _ _ hq
  obtain ⟨i0, hi, hz0, hz1, hz2⟩ := info_parts Try.info30
  go_enter Try.func18, Try.ntmps18
  go_wp2_with fail
  refine h21.mono ?_
  rintro e w ⟨rfl, rfl⟩
  clear h21
  by_cases hin : a ∈ cs
  · rw [decide_eq_true hin]
    go_wp2
    go_ret
    exact .inl ⟨hin, rfl, rfl⟩
  · rw [decide_eq_false hin]
    have hC' := hC
    unfold Own at hC'
    go_wp2_with (first
      | (at_builtin; refine wpList_append_own_at _ rfl _ _ 22 rfl lo 30 i0 (.int .u64 0) 1 8 Try.underlying22 hi hz0 hz1 hz2 rfl (by decide) _ _ _ rfl (hC'.alloc _) ⟨w.heap.size, 0, none⟩ 1 1 [.int .u64 a] rfl rfl (cell_one_new _ _ _) (ints_oneCell .u64 [a]) (by unfold maxLen; omega) (by omega) (by simp; omega) ?_)
      | go_in)
    intro v' w2 hown' hgrow hnil hloc
    have hown2 : Own w2 lo v' (cs ++ [a]) := by
      unfold Own
      simpa using hown'
    have hg : Kp w (fun b => b = qb ∨ some b = (Value.slice ao cs.length cap).ownBlock) w2 :=
      ((Kp.refl w _).alloc _).trans (Kp.grown hgrow (fun b e _ => .inr e.symm))
    obtain ⟨ao2, cap2, hv2⟩ := hown2.shape
    rw [show (cs ++ [a]).length = cs.length + 1 by simp] at hv2
    subst hv2
    have hq2 : w2.heap[qb]? = w.heap[qb]? := by
      rw [hgrow.block qb (by simp; omega) (fun e => hne e.symm)]
      exact blk_alloc_lt _ _ _ hlt
    have hc2 : w2.cell? ⟨qb, 1, none⟩ = some (.slice ao cs.length cap) := by rw [World.cell?_of_block (w := w) (a := ⟨qb, 1, none⟩) hq2]; exact hq
    have hf2 : w2.frozen? ⟨qb, 1, none⟩ = false := by rw [World.frozen?_of_block (w := w) (a := ⟨qb, 1, none⟩) hq2]; exact hf
    have hloc2 : (Value.slice ao2 (cs.length + 1) cap2).ownBlock = (Value.slice ao cs.length cap).ownBlock ∨ ∃ g, (Value.slice ao2 (cs.length + 1) cap2).ownBlock = some g ∧ w.heap.size ≤ g := by
      rcases hloc with e | e
      · exact .inl e
      · exact .inr ⟨_, e, by simp⟩
    have hne2 : (Value.slice ao2 (cs.length + 1) cap2).ownBlock ≠ some qb := by
      rcases hloc2 with e | ⟨g, e, hg⟩
      · rw [e]; exact hne
      · rw [e]; simp; omega
    clear hown' hgrow hnil hloc hC' hC hz0 hz1 hz2 hi
    go_wp2
    go_ret
    refine .inr ⟨hin, rfl, hg.setCell (fun _ => .inl rfl) _, _, ?_, hown2.kept (fun g hg => blk_setCell_other _ _ _ _ (fun e => hne2 (by rw [hg]; exact congrArg some e))), hloc2, fun x hx => ?_⟩
    · exact World.cell?_setCell_same _ _ _ hc2
    rw [World.cell?_setCell_other _ _ _ _ (by simp), World.cell?_of_block (w := w) (a := ⟨qb, 0, none⟩) hq2]
    exact hx
end Go.Proofs.Qxb6601152a
