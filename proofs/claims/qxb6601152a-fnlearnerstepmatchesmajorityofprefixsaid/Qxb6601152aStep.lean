import Derived.Test.Qxb6601152aState
namespace Go.Proofs.Qxb6601152a
open Go.RowKit Go.Deep

/-- What the law expects of message j. -/
def expd (n : Nat) (X : Nat → Int) (M : Nat → ZM) (j : Nat) (L : Bool) : Bool :=
  !L && (M j).ty == 4 && has n X (M j).fr && decide (n < 2 * wt n X M (j + 1) (M j).br (M j).bn)

def StepPost (w : World) (B0 : Nat) (av : Value) (n : Nat) (X : Nat → Int) (M : Nat → ZM) (j : Nat) (L : Bool) (r d : Int) (s : ByteArray) (e : Ending) (w' : World) : Prop :=
  e = .returned (.bool (expd n X M j L)) ∧ w.Since B0 w' ∧ (∀ (b : Nat) (x : Array Value) (t : TypeId), t ≠ 30 → t ≠ 47 → w.heap[b]? = some (Obj.cells x t (0, 0)) → w'.heap[b]? = some (Obj.cells x t (0, 0))) ∧
    LS w' B0 av n X M (j + 1) (L || expd n X M j L) (if expd n X M j L then (M j).br else r) (if expd n X M j L then (M j).bn else d) (if expd n X M j L then (M j).vl else s)

theorem LS.lb {w : World} {B0 : Nat} {av : Value} {n : Nat} {X : Nat → Int} {M : Nat → ZM} {j : Nat} {L : Bool} {r d : Int} {s : ByteArray} (h : LS w B0 av n X M j L r d s) : B0 + 1 < w.heap.size := by
  rcases h with ⟨_, _, _, _, P, G, Cv, Cs, hv⟩ | ⟨_, hr⟩
  · exact hv.cells.lt
  · exact hr.lt

theorem LS.since {w w' : World} {B0 : Nat} {av : Value} {n : Nat} {X : Nat → Int} {M : Nat → ZM} {j : Nat} {L : Bool} {r d : Int} {s : ByteArray} (h : LS w B0 av n X M j L r d s) (hs : w.Since w.heap.size w') : LS w' B0 av n X M j L r d s := by
  rcases h with ⟨h0, h1, h2, h3, P, G, Cv, Cs, hv⟩ | ⟨h0, hr⟩
  · exact .inl ⟨h0, h1, h2, h3, P, G, Cv, Cs, rowIs_since hv.cells hs, hv.map.kept (hs.block _ hv.map.lt), hv.absent, fun r d hp => (hv.own r d hp).kept (fun g hg => hs.block _ ((hv.own r d hp).lt hg).2.1),
      fun r d hp => ⟨(hv.grp r d hp).1, rowIs_since (hv.grp r d hp).2 hs⟩, hv.apart, hv.len, hv.mem, hv.low⟩
  · exact .inr ⟨h0, rowIs_since hr hs⟩

/-- The learner's cells of what was chosen. -/
theorem LS.cell {w : World} {B0 : Nat} {av : Value} {n : Nat} {X : Nat → Int} {M : Nat → ZM} {j : Nat} {L : Bool} {r d : Int} {s : ByteArray} (h : LS w B0 av n X M j L r d s) :
    w.cell? ⟨B0 + 1, 2, none⟩ = some (.int .u64 r) ∧ w.cell? ⟨B0 + 1, 3, none⟩ = some (.int .u64 d) ∧ w.cell? ⟨B0 + 1, 4, none⟩ = some (.string s) := by
  rcases h with ⟨h0, rfl, rfl, rfl, P, G, Cv, Cs, hv⟩ | ⟨h0, hr⟩
  · exact ⟨by simpa [lcell] using hv.cells.cell (i := 2) (by omega), by simpa [lcell] using hv.cells.cell (i := 3) (by omega), by simpa [lcell] using hv.cells.cell (i := 4) (by omega)⟩
  · exact ⟨by simpa [lcell] using hr.cell (i := 2) (by omega), by simpa [lcell] using hr.cell (i := 3) (by omega), by simpa [lcell] using hr.cell (i := 4) (by omega)⟩

/-- The learner at its making. -/
theorem LS.made (ao : Option Addr) (n cap : Nat) (X : Nat → Int) (M : Nat → ZM) (w : World) :
    LS ((w.alloc (.map #[] 0)).alloc (.cells #[.slice ao n cap, .map (some w.heap.size), .int .u64 0, .int .u64 0, .string (ByteArray.mk #[])] 47)) w.heap.size (.slice ao n cap) n X M 0 false 0 0 (ByteArray.mk #[]) := by
  have hz : (w.alloc (.map #[] 0)).heap.size = w.heap.size + 1 := by simp
  refine .inl ⟨rfl, rfl, rfl, rfl, fun _ _ => false, fun _ _ => 0, fun _ _ => .slice none 0 0, fun _ _ => [], ?_, ?_, fun _ _ _ => rfl, fun _ _ h => by simp at h, fun _ _ h => by simp at h, fun _ _ _ _ _ h => by simp at h, fun _ _ => Nat.le_refl _, fun r d a => ?_, fun r d => ?_⟩
  · rw [← hz]
    refine ⟨_, heap_alloc_last _ _, rfl, fun i hi => ?_⟩
    unfold lcell
    match i, hi with
    | 0, _ => rfl
    | 1, _ => rfl
    | 2, _ => rfl
    | 3, _ => rfl
    | 4, _ => rfl
  · have h := MapF.made w
    have e : (FF (fun _ _ => false) (fun _ _ => 0) (fun _ _ => Value.slice none 0 0)) = (fun _ _ => none) := by funext r d; simp [FF]
    rw [e]
    exact h.kept (blk_alloc_lt _ _ _ h.lt)
  · simp [hit]
  · have : wt n X M 0 r d = 0 := cnt_zero n (fun i _ => rfl)
    omega

theorem StepPost.no {w w' : World} {B0 : Nat} {av : Value} {n : Nat} {X : Nat → Int} {M : Nat → ZM} {j : Nat} {L : Bool} {r d : Int} {s : ByteArray} (h : LS w B0 av n X M j L r d s) (hs : w.Since w.heap.size w')
    (he : expd n X M j L = false) (hh : L = false → ∀ a r d, has n X a = true → hit M (j + 1) a r d = hit M j a r d) : StepPost w B0 av n X M j L r d s (.returned (.bool false)) w' := by
  have hlb := h.lb
  refine ⟨by rw [he], since_le hs (by omega), fun b x t _ _ hb => by rw [hs.block b (Array.getElem?_eq_some_iff.1 hb).1]; exact hb, ?_⟩
  rw [he, Bool.or_false]
  simp only [Bool.false_eq_true, if_false]
  rcases h with ⟨hL, h1, h2, h3, P, G, Cv, Cs, hv⟩ | ⟨hL, hr⟩
  · exact .inl ⟨hL, h1, h2, h3, P, G, Cv, Cs, hv.same hs (hh hL)⟩
  · exact .inr ⟨hL, rowIs_since hr hs⟩

theorem hit_same_of {M : Nat → ZM} {j : Nat} {a r d : Int} (h : ¬ ((M j).ty = 4 ∧ (M j).fr = a ∧ (M j).br = r ∧ (M j).bn = d)) : hit M (j + 1) a r d = hit M j a r d := by
  rw [hit, is4_false_of h, Bool.or_false]

theorem bpost {w w' : World} {B0 : Nat} {av : Value} {n : Nat} {X : Nat → Int} {M : Nat → ZM} {j : Nat} {P : Int → Int → Bool} {G : Int → Int → Nat} {Cv : Int → Int → Value} {Cs : Int → Int → List Int} {e : Ending}
    (h : Votes w B0 av n X M j P G Cv Cs) (h4 : (M j).ty = 4) (hhas : has n X (M j).fr = true) {c : Value}
    (hc : (P (M j).br (M j).bn = true ∧ c = Cv (M j).br (M j).bn) ∨ (P (M j).br (M j).bn = false ∧ c = .slice none 0 0))
    (hb : BPost (B0 + 1) B0 (B0 + 2) av n X (M j) 0 0 (ByteArray.mk #[]) j (FF P G Cv) c (Cs (M j).br (M j).bn) w e w') : StepPost w B0 av n X M j false 0 0 (ByteArray.mk #[]) e w' := by
  have hcb : ∀ b, some b = c.ownBlock → B0 ≤ b := by
    intro b e
    rcases hc with ⟨hp, rfl⟩ | ⟨_, rfl⟩
    · have := ((h.own _ _ hp).lt e.symm).1
      omega
    · simp [Value.ownBlock] at e
  have hcn : ∀ (b : Nat) (x : Array Value) (t : TypeId), t ≠ 30 → w.heap[b]? = some (Obj.cells x t (0, 0)) → some b ≠ c.ownBlock := by
    intro b x t ht hbx e
    rcases hc with ⟨hp, rfl⟩ | ⟨_, rfl⟩
    · obtain ⟨_, _, cur, hcur⟩ := (h.own _ _ hp).lt e.symm
      rw [hcur] at hbx
      simp at hbx
      exact ht hbx.2.symm
    · simp [Value.ownBlock] at e
  have hlb := h.cells.lt
  obtain ⟨xl, hxl⟩ := rowIs_obj h.cells
  obtain ⟨em, cm, hem⟩ := h.map.isMap
  have hex : ∀ q : Bool, decide (n < 2 * wt n X M (j + 1) (M j).br (M j).bn) = q → expd n X M j false = q := by
    intro q hq
    simp [expd, h4, hhas, hq]
  unfold BPost at hb
  rw [cnt_eq h h4] at hb
  rcases hb with ⟨hin, rfl, hs⟩ | ⟨hin, hre, rfl, hk, hcl⟩ | ⟨hin, hre, rfl, hk, hcl, g, c', hm, ho, hg, hgr, hloc⟩
  · have hh := (h.mem _ _ _).1 hin
    have hsame : ∀ a r d, has n X a = true → hit M (j + 1) a r d = hit M j a r d := by
      intro a r d _
      by_cases q : (M j).ty = 4 ∧ (M j).fr = a ∧ (M j).br = r ∧ (M j).bn = d
      · obtain ⟨_, rfl, rfl, rfl⟩ := q
        rw [hit, hh.2]
        rfl
      · exact hit_same_of q
    refine StepPost.no (.inl ⟨rfl, rfl, rfl, rfl, P, G, Cv, Cs, h⟩) hs (hex _ (decide_eq_false ?_)) (fun _ => hsame)
    have e : wt n X M (j + 1) (M j).br (M j).bn = wt n X M j (M j).br (M j).bn := cnt_congr n (fun i hi => hsame _ _ _ (has_at n X hi))
    have := h.low (M j).br (M j).bn
    omega
  · have he := hex true (decide_eq_true hre)
    refine ⟨by rw [he], hk.toSince (by omega) (by rintro b (rfl | e); (· omega); exact hcb b e), fun b x t h30 h47 hb => ?_, ?_⟩
    · rw [hk.block b (Array.getElem?_eq_some_iff.1 hb).1]
      · exact hb
      · rintro (rfl | e)
        · rw [hxl] at hb; simp at hb; exact h47 hb.2.symm
        · exact hcn b x t h30 hb e
    rw [he]
    exact .inr ⟨rfl, hcl⟩
  · have he := hex false (decide_eq_false hre)
    refine ⟨by rw [he], hk.toSince (by omega) (by rintro b (rfl | e); (· omega); exact hcb b e), fun b x t h30 h47 hb => ?_, ?_⟩
    · rw [hk.block b (Array.getElem?_eq_some_iff.1 hb).1]
      · exact hb
      · rintro (rfl | e)
        · rw [hem] at hb; simp at hb
        · exact hcn b x t h30 hb e
    rw [he]
    exact .inl ⟨rfl, rfl, rfl, rfl, h.put h4 hhas hc hk hcl hm ho hg hgr hloc hre⟩

theorem step (B0 : Nat) (av : Value) (n : Nat) (X : Nat → Int) (M : Nat → ZM) (j : Nat) (L : Bool) (r d : Int) (s : ByteArray) (w : World) (hn : n ≤ 1048576) (hj : j ≤ 1000000) (h : LS w B0 av n X M j L r d s)
    (hA : ∀ w', w.Since B0 w' → IntsI w' 0 av n X) (hB : B0 + 2 ≤ w.heap.size) (hwf : wfb (M j).br (M j).bn) :
    Calls Try.prog 12 #[.pointer (some ⟨B0 + 1, 0, none⟩), .agg (M j).cells.toArray] w (StepPost w B0 av n X M j L r d s) := by
  by_cases h4 : (M j).ty = 4
  · rcases h with ⟨rfl, rfl, rfl, rfl, P, G, Cv, Cs, hv⟩ | ⟨rfl, hr⟩
    · cases hhas : has n X (M j).fr with
      | false =>
        refine (stepA3 (B0 + 1) B0 av n X (M j) w hn h4 (by simpa [lcell] using hv.cells.cell (i := 0) (by omega)) (by simpa [lcell] using hv.cells.cell (i := 1) (by omega)) (hA w (.refl _ _)) hhas).mono ?_
        rintro e w' ⟨rfl, hs⟩
        refine StepPost.no (.inl ⟨rfl, rfl, rfl, rfl, P, G, Cv, Cs, hv⟩) hs (by simp [expd, hhas]) (fun _ a r d ha => hit_same_of ?_)
        rintro ⟨_, rfl, _⟩
        rw [hhas] at ha
        simp at ha
      | true =>
        have hA' : ∀ w', w.Since (B0 + 2) w' → IntsI w' 0 av n X := fun w' hs => hA w' (since_le hs (by omega))
        cases hp : P (M j).br (M j).bn with
        | true =>
          have ho := hv.own _ _ hp
          obtain ⟨ao, cap, hcv⟩ := ho.shape
          obtain ⟨hg, hgr⟩ := hv.grp _ _ hp
          refine (stepP (B0 + 1) B0 (B0 + 2) av n X (M j) 0 0 (ByteArray.mk #[]) w hn h4 hv.cells hA' hB hhas (FF P G Cv) j (by unfold maxLen; omega) hv.map hwf (Cs (M j).br (M j).bn) (by have := hv.len (M j).br (M j).bn; omega)
            (G (M j).br (M j).bn) ao cap hg hgr (by rw [← hcv]; exact ho) (by simp [FF, hp, qv, hcv])).mono ?_
          intro e w' hb
          rw [← hcv] at hb
          exact bpost hv h4 hhas (.inl ⟨hp, rfl⟩) hb
        | false =>
          refine (stepN (B0 + 1) B0 (B0 + 2) av n X (M j) 0 0 (ByteArray.mk #[]) w hn h4 hv.cells hA' hB hhas (FF P G Cv) j (by unfold maxLen; omega) hv.map hwf (by simp [FF, hp])).mono ?_
          intro e w' hb
          rw [← hv.absent _ _ hp] at hb
          exact bpost hv h4 hhas (.inr ⟨hp, rfl⟩) hb
    · refine (stepA2 (B0 + 1) (M j) w h4 (by simpa [lcell] using hr.cell (i := 1) (by omega))).mono ?_
      rintro e w' ⟨rfl, hs⟩
      exact StepPost.no (.inr ⟨rfl, hr⟩) hs (by simp [expd]) (fun e => by simp at e)
  · refine (stepA1 (B0 + 1) (M j) w h4).mono ?_
    rintro e w' ⟨rfl, hs⟩
    exact StepPost.no h hs (by simp [expd, h4]) (fun _ a r d _ => hit_same_of (fun q => h4 q.1))
end Go.Proofs.Qxb6601152a
