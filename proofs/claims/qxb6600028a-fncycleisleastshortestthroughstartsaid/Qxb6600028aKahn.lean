/-
  PLAIN: Kahn's peeling. No Go in sight.
-/
import Derived.Test.Qxb6600028aGraph
namespace Go.Proofs.Qxb6600028a

theorem pigeon : ∀ (n : Nat) (l : List Nat), l.Nodup → (∀ x, x ∈ l → x < n) → l.length ≤ n
  | 0, l, _, h => by
    match l with
    | [] => exact Nat.le_refl _
    | x :: _ => exact absurd (h x List.mem_cons_self) (Nat.not_lt_zero _)
  | n + 1, l, hd, h => by
    by_cases hm : n ∈ l
    · have h1 := pigeon n (l.erase n) (hd.erase n) (fun x hx => by
        have hx' := (hd.mem_erase_iff).1 hx
        have := h x hx'.2
        omega)
      rw [List.length_erase_of_mem hm] at h1
      omega
    · have := pigeon n l hd (fun x hx => by
        have := h x hx
        have : x ≠ n := fun e => hm (e ▸ hx)
        omega)
      omega

/-- In a graph without cycles a walk passes no place twice. -/
theorem walk_list {g : Gr} (ok : GOk g) (hac : ∀ x, x < g.n → ¬ OnC g x) : ∀ {k u v : Nat}, u < g.n → Wk g k u v → ∃ l : List Nat, l.length = k + 1 ∧ l.Nodup ∧ (∀ y, y ∈ l → y < g.n) ∧ ∀ y, y ∈ l → Rch g u y
  | 0, u, _, hu, _ => ⟨[u], rfl, by simp, fun y hy => by simp at hy; rw [hy]; exact hu, fun y hy => by simp at hy; rw [hy]; exact Rch.refl _ _⟩
  | k + 1, u, v, hu, ⟨x, hx, h⟩ => by
    obtain ⟨l, h1, h2, h3, h4⟩ := walk_list ok hac (hx.lt ok hu) h
    refine ⟨u :: l, by rw [List.length_cons, h1], List.nodup_cons.2 ⟨fun hm => ?_, h2⟩, fun y hy => ?_, fun y hy => ?_⟩
    · obtain ⟨m, hm'⟩ := h4 u hm
      exact hac u hu ⟨m, x, hx, hm'⟩
    · rcases List.mem_cons.1 hy with rfl | hy
      · exact hu
      · exact h3 y hy
    · rcases List.mem_cons.1 hy with rfl | hy
      · exact Rch.refl _ _
      · exact (Rch.edge hx).trans (h4 y hy)

theorem no_long_walk {g : Gr} (ok : GOk g) (hac : ∀ x, x < g.n → ¬ OnC g x) {u v : Nat} (hu : u < g.n) (h : Wk g g.n u v) : False := by
  obtain ⟨l, h1, h2, h3, _⟩ := walk_list ok hac hu h
  have := pigeon g.n l h2 h3
  omega

/-- How many of the first j arcs of u lead to v. -/
def cnt (g : Gr) (u j v : Nat) : Nat := sumTo (fun i => if g.Z u i = v then 1 else 0) j
/-- How many arcs lead to v from the first m places, those of P left out. -/
def rem (g : Gr) (P : List Nat) (v m : Nat) : Nat := sumTo (fun u => if u ∈ P then 0 else cnt g u (g.L u) v) m

theorem cnt_succ (g : Gr) (u j v : Nat) : cnt g u (j + 1) v = cnt g u j v + if g.Z u j = v then 1 else 0 := rfl
theorem cnt_le {g : Gr} {u j k v : Nat} (h : j ≤ k) : cnt g u j v ≤ cnt g u k v := sumTo_le h
theorem cnt_edge {g : Gr} {u v : Nat} (h : Edge g u v) : 1 ≤ cnt g u (g.L u) v := by
  obtain ⟨j, hj, hz⟩ := h
  have := sumTo_term (f := fun i => if g.Z u i = v then 1 else 0) hj
  simp only [hz, if_true] at this
  exact this
theorem edge_of_cnt {g : Gr} {u v : Nat} : ∀ {j : Nat}, 0 < cnt g u j v → ∃ i, i < j ∧ g.Z u i = v
  | 0, h => by simp [cnt, sumTo] at h
  | j + 1, h => by
    rw [cnt_succ] at h
    by_cases e : g.Z u j = v
    · exact ⟨j, by omega, e⟩
    · rw [if_neg e] at h
      obtain ⟨i, hi, hz⟩ := edge_of_cnt (j := j) (by omega)
      exact ⟨i, by omega, hz⟩

theorem sumTo_two {f : Nat → Nat} {a b : Nat} (hne : a ≠ b) : ∀ {m : Nat}, a < m → b < m → f a + f b ≤ sumTo f m
  | 0, h, _ => by omega
  | m + 1, ha, hb => by
    simp only [sumTo]
    by_cases e : a = m
    · subst e
      have := sumTo_term (f := f) (show b < a by omega)
      omega
    · by_cases e' : b = m
      · subst e'
        have := sumTo_term (f := f) (show a < b by omega)
        omega
      · have := sumTo_two (f := f) hne (m := m) (by omega) (by omega)
        omega

theorem sumTo_pos {f : Nat → Nat} : ∀ {m : Nat}, 0 < sumTo f m → ∃ u, u < m ∧ 0 < f u
  | 0, h => by simp [sumTo] at h
  | m + 1, h => by
    simp only [sumTo] at h
    by_cases e : 0 < f m
    · exact ⟨m, by omega, e⟩
    · obtain ⟨u, hu, hf⟩ := sumTo_pos (f := f) (m := m) (by omega)
      exact ⟨u, by omega, hf⟩

theorem rem_take {g : Gr} {P : List Nat} {u v : Nat} (hu : u ∉ P) : ∀ {m : Nat}, u < m → rem g P v m = rem g (P ++ [u]) v m + cnt g u (g.L u) v
  | 0, h => by omega
  | m + 1, h => by
    unfold rem
    simp only [sumTo]
    by_cases e : u = m
    · subst e
      have : sumTo (fun x => if x ∈ P then 0 else cnt g x (g.L x) v) u = sumTo (fun x => if x ∈ P ++ [u] then 0 else cnt g x (g.L x) v) u :=
        sumTo_congr (fun x hx => by
          have : x ≠ u := by omega
          simp [this])
      rw [this]
      simp [hu]
    · have := rem_take hu (m := m) (v := v) (g := g) (by omega)
      unfold rem at this
      rw [this]
      have e' : (m ∈ P ++ [u]) = (m ∈ P) := by simp [show ¬ m = u from fun e' => e e'.symm]
      simp only [e']
      omega

/-- What holds while the place u is being peeled, j of its arcs struck, those of P peeled before it. -/
structure KI (g : Gr) (P : List Nat) (u j : Nat) (deg : Nat → Int) (Q : List Nat) : Prop where
  mem : ∀ x, x ∈ Q → x < g.n
  nd : Q.Nodup
  dg : ∀ v, v < g.n → deg v + cnt g u j v = rem g P v g.n
  zero : ∀ v, v < g.n → (v ∈ Q ↔ deg v = 0)
  ord : ∀ pre v post, Q = pre ++ v :: post → ∀ x, x < g.n → Edge g x v → x ∈ pre

theorem KI.nonneg {g : Gr} {P Q : List Nat} {u j : Nat} {deg : Nat → Int} (h : KI g P u j deg Q) (hu : u < g.n) (huP : u ∉ P) (hj : j ≤ g.L u) {v : Nat} (hv : v < g.n) : 0 ≤ deg v := by
  have h1 := h.dg v hv
  have h2 := cnt_le (g := g) (u := u) (v := v) hj
  have h3 := sumTo_term (f := fun x => if x ∈ P then 0 else cnt g x (g.L x) v) hu
  simp only [huP, if_false] at h3
  unfold rem at h1
  omega

/-- One arc u -> x is struck; x still has arcs that lead to it. -/
theorem KI.keep {g : Gr} {P Q : List Nat} {u j : Nat} {deg : Nat → Int} (h : KI g P u j deg Q) (hu : u < g.n) (huP : u ∉ P) (hj : j < g.L u) {x : Nat} (hz : g.Z u j = x) (hx : x < g.n) (hne : deg x - 1 ≠ 0) :
    KI g P u (j + 1) (upd deg x (deg x - 1)) Q := by
  refine ⟨h.mem, h.nd, fun v hv => ?_, fun v hv => ?_, h.ord⟩
  · have := h.dg v hv
    rw [cnt_succ, hz]
    by_cases e : v = x
    · subst e; rw [upd_same, if_pos rfl]; omega
    · rw [upd_ne _ _ _ e, if_neg (fun e' => e e'.symm)]; omega
  · by_cases e : v = x
    · subst e
      rw [upd_same, h.zero v hv]
      have h1 := h.dg v hv
      have h2 : cnt g u (j + 1) v ≤ cnt g u (g.L u) v := cnt_le hj
      rw [cnt_succ, hz, if_pos rfl] at h2
      have h3 := sumTo_term (f := fun x => if x ∈ P then 0 else cnt g x (g.L x) v) hu
      simp only [huP, if_false] at h3
      unfold rem at h1
      omega
    · rw [upd_ne _ _ _ e]; exact h.zero v hv

/-- .. it was the last arc: x is freed. -/
theorem KI.free {g : Gr} {P Q : List Nat} {u j : Nat} {deg : Nat → Int} (h : KI g P u j deg Q) (hu : u < g.n) (huP : u ∉ P) (hPQ : ∀ y, y ∈ P → y ∈ Q) (huQ : u ∈ Q) (hj : j < g.L u) {x : Nat} (hz : g.Z u j = x) (hx : x < g.n) (he : deg x - 1 = 0) :
    KI g P u (j + 1) (upd deg x (deg x - 1)) (Q ++ [x]) ∧ x ∉ Q := by
  have hxQ : x ∉ Q := fun hm => by
    have := (h.zero x hx).1 hm
    omega
  refine ⟨⟨fun y hy => ?_, ?_, fun v hv => ?_, fun v hv => ?_, fun pre v post hQ y hy hyv => ?_⟩, hxQ⟩
  · rcases List.mem_append.1 hy with hy | hy
    · exact h.mem y hy
    · simp at hy; rw [hy]; exact hx
  · rw [List.nodup_append]
    refine ⟨h.nd, by simp, fun a ha b hb => ?_⟩
    simp at hb
    subst hb
    exact fun e => hxQ (e ▸ ha)
  · have := h.dg v hv
    rw [cnt_succ, hz]
    by_cases e : v = x
    · subst e; rw [upd_same, if_pos rfl]; omega
    · rw [upd_ne _ _ _ e, if_neg (fun e' => e e'.symm)]; omega
  · by_cases e : v = x
    · subst e; rw [upd_same]; simp [he]
    · rw [upd_ne _ _ _ e, ← h.zero v hv]; simp [e]
  · rcases List.append_eq_append_iff.1 hQ with ⟨l, h1, h2⟩ | ⟨l, h1, h2⟩
    · -- the new element
      match l, h1, h2 with
      | [], h1, h2 =>
        simp at h1 h2
        obtain ⟨rfl, _⟩ := h2
        subst h1
        by_cases hyP : y ∈ P
        · exact hPQ y hyP
        · by_cases e : y = u
          · rw [e]; exact huQ
          · exfalso
            have h3 := sumTo_two (f := fun a => if a ∈ P then 0 else cnt g a (g.L a) x) e hy hu
            simp only [hyP, huP, if_false] at h3
            have h4 := cnt_edge hyv
            have h5 := h.dg x hx
            have h6 : cnt g u (j + 1) x ≤ cnt g u (g.L u) x := cnt_le hj
            rw [cnt_succ, hz, if_pos rfl] at h6
            unfold rem at h5
            omega
      | a :: l', h1, h2 =>
        have h2' := congrArg List.length h2
        simp at h2'
    · match l, h1, h2 with
      | [], h1, h2 =>
        simp at h1 h2
        obtain ⟨rfl, _⟩ := h2
        subst h1
        by_cases hyP : y ∈ P
        · exact hPQ y hyP
        · by_cases e : y = u
          · rw [e]; exact huQ
          · exfalso
            have h3 := sumTo_two (f := fun a => if a ∈ P then 0 else cnt g a (g.L a) v) e hy hu
            simp only [hyP, huP, if_false] at h3
            have h4 := cnt_edge hyv
            have h5 := h.dg v hx
            have h6 : cnt g u (j + 1) v ≤ cnt g u (g.L u) v := cnt_le hj
            rw [cnt_succ, hz, if_pos rfl] at h6
            unfold rem at h5
            omega
      | a :: l', h1, h2 =>
        simp at h2
        obtain ⟨rfl, h2⟩ := h2
        exact h.ord pre v l' h1 y hy hyv

/-- The next place of the queue. -/
theorem KI.next {g : Gr} {P Q : List Nat} {u : Nat} {deg : Nat → Int} (h : KI g P u (g.L u) deg Q) (hu : u < g.n) (huP : u ∉ P) (u' : Nat) : KI g (P ++ [u]) u' 0 deg Q := by
  refine ⟨h.mem, h.nd, fun v hv => ?_, h.zero, h.ord⟩
  have h1 := h.dg v hv
  have h2 := rem_take (g := g) (v := v) huP hu
  have h3 : cnt g u' 0 v = 0 := rfl
  omega
theorem KI.other {g : Gr} {P Q : List Nat} {u : Nat} {deg : Nat → Int} (h : KI g P u 0 deg Q) (u' : Nat) : KI g P u' 0 deg Q := ⟨h.mem, h.nd, h.dg, h.zero, h.ord⟩

/-- WHAT zzKahnDone HANDS BACK. -/
structure KahnOk (g : Gr) (done : Nat → Bool) : Prop where
  cyc : ∀ v, v < g.n → OnC g v → done v = false
  all : (∀ v, v < g.n → ¬ OnC g v) → ∀ v, v < g.n → done v = true

theorem KI.walk_back {g : Gr} (ok : GOk g) {P Q : List Nat} {u j : Nat} {deg : Nat → Int} (h : KI g P u j deg Q) : ∀ {k x v : Nat} (pre post : List Nat), Q = pre ++ v :: post → x < g.n → Wk g k x v → ∃ pre' post', Q = pre' ++ x :: post' ∧ pre'.length + k ≤ pre.length
  | 0, x, v, pre, post, hQ, _, hw => ⟨pre, post, by have e : x = v := hw; rw [e]; exact hQ, Nat.le_refl _⟩
  | k + 1, x, v, pre, post, hQ, hx, ⟨y, hxy, hw⟩ => by
    obtain ⟨p1, q1, e1, l1⟩ := h.walk_back ok pre post hQ (hxy.lt ok hx) hw
    have hm := h.ord p1 y q1 e1 x hx hxy
    obtain ⟨p2, q2, e2⟩ := List.append_of_mem hm
    refine ⟨p2, q2 ++ y :: q1, by rw [e1, e2]; simp, ?_⟩
    rw [e2] at l1
    simp only [List.length_append, List.length_cons] at l1
    omega

theorem KI.final {g : Gr} (ok : GOk g) {Q : List Nat} {u : Nat} {deg : Nat → Int} (h : KI g Q u 0 deg Q) (done : Nat → Bool) (hd : ∀ v, v < g.n → (done v = true ↔ v ∈ Q)) : KahnOk g done := by
  constructor
  · intro v hv ⟨k, hk⟩
    cases hdv : done v with
    | false => rfl
    | true =>
      exfalso
      have hm := (hd v hv).1 hdv
      obtain ⟨pre, post, hQ⟩ := List.append_of_mem hm
      have key : ∀ m, ∀ pre post, pre.length = m → Q = pre ++ v :: post → False := by
        intro m
        induction m using Nat.strongRecOn with
        | _ m ih =>
          intro pre post hl hQ
          obtain ⟨p1, q1, e1, l1⟩ := h.walk_back ok pre post hQ hv hk
          exact ih p1.length (by omega) p1 q1 rfl e1
      exact key _ pre post rfl hQ
  · intro hac v hv
    cases hdv : done v with
    | true => rfl
    | false =>
      exfalso
      have hpred : ∀ x, x < g.n → x ∉ Q → ∃ y, y < g.n ∧ y ∉ Q ∧ Edge g y x := by
        intro x hx hxQ
        have h1 := h.dg x hx
        have h2 : deg x ≠ 0 := fun e => hxQ ((h.zero x hx).2 e)
        have h3 : cnt g u 0 x = 0 := rfl
        have h4 : 0 < rem g Q x g.n := by omega
        obtain ⟨y, hy, hp⟩ := sumTo_pos h4
        by_cases hyQ : y ∈ Q
        · simp [hyQ] at hp
        · simp only [hyQ, if_false] at hp
          exact ⟨y, hy, hyQ, edge_of_cnt hp⟩
      have hlong : ∀ k, ∃ y, y < g.n ∧ y ∉ Q ∧ Wk g k y v := by
        intro k
        induction k with
        | zero => exact ⟨v, hv, fun hm => by have := (hd v hv).2 hm; rw [hdv] at this; simp at this, rfl⟩
        | succ k ih =>
          obtain ⟨y, hy, hyQ, hw⟩ := ih
          obtain ⟨x, hx, hxQ, hxy⟩ := hpred y hy hyQ
          exact ⟨x, hx, hxQ, y, hxy, hw⟩
      obtain ⟨y, hy, _, hw⟩ := hlong g.n
      exact no_long_walk ok hac hy hw

theorem sumTo_mono {f f' : Nat → Nat} : ∀ {m : Nat}, (∀ x, x < m → f x ≤ f' x) → sumTo f m ≤ sumTo f' m
  | 0, _ => Nat.le_refl _
  | m + 1, h => by
    have h1 := sumTo_mono (f := f) (f' := f') (m := m) (fun x hx => h x (by omega))
    have h2 := h m (by omega)
    simp only [sumTo]
    omega

theorem cnt_bound (g : Gr) (u v : Nat) : ∀ j, cnt g u j v ≤ j
  | 0 => Nat.le_refl _
  | j + 1 => by
    have := cnt_bound g u v j
    rw [cnt_succ]
    split <;> omega

theorem rem_le (g : Gr) (P : List Nat) (v m : Nat) : rem g P v m ≤ sumTo g.L m :=
  sumTo_mono (fun u _ => by
    have := cnt_bound g u v (g.L u)
    split <;> omega)

theorem KI.le {g : Gr} {P Q : List Nat} {u j : Nat} {deg : Nat → Int} (h : KI g P u j deg Q) {v : Nat} (hv : v < g.n) : deg v ≤ sumTo g.L g.n := by
  have h1 := h.dg v hv
  have h2 := rem_le g P v g.n
  omega

theorem KI.len {g : Gr} {P Q : List Nat} {u j : Nat} {deg : Nat → Int} (h : KI g P u j deg Q) : Q.length ≤ g.n := pigeon g.n Q h.nd h.mem

/-- The in-degrees behind u rows and j arcs of the next. -/
def degAt (g : Gr) (u j v : Nat) : Nat := rem g [] v u + cnt g u j v
theorem degAt_zero (g : Gr) (v : Nat) : degAt g 0 0 v = 0 := rfl
theorem degAt_row (g : Gr) (u v : Nat) : degAt g u (g.L u) v = degAt g (u + 1) 0 v := by
  have e : rem g [] v (u + 1) = rem g [] v u + cnt g u (g.L u) v := by simp [rem, sumTo]
  show rem g [] v u + cnt g u (g.L u) v = rem g [] v (u + 1) + 0
  omega
theorem degAt_arc (g : Gr) (u j x v : Nat) (hz : g.Z u j = x) : degAt g u (j + 1) v = if v = x then degAt g u j x + 1 else degAt g u j v := by
  show rem g [] v u + (cnt g u j v + if g.Z u j = v then 1 else 0) = _
  rw [hz]
  by_cases e : v = x
  · subst e; simp only [if_true]; show _ = rem g [] v u + cnt g u j v + 1; omega
  · rw [if_neg e, if_neg (fun e' => e e'.symm)]; rfl
theorem degAt_le (g : Gr) {u j : Nat} (hu : u < g.n) (hj : j ≤ g.L u) (v : Nat) : degAt g u j v ≤ sumTo g.L g.n := by
  have h1 := rem_le g [] v u
  have h2 := cnt_bound g u v j
  have h3 : sumTo g.L (u + 1) ≤ sumTo g.L g.n := sumTo_le hu
  simp only [sumTo] at h3
  unfold degAt
  omega

theorem KI.start {g : Gr} {deg : Nat → Int} {Q : List Nat} (hd : ∀ v, v < g.n → deg v = degAt g g.n 0 v) (hQ : ∀ x, x ∈ Q ↔ x < g.n ∧ deg x = 0) (nd : Q.Nodup) : KI g [] 0 0 deg Q := by
  have hd' : ∀ v, v < g.n → deg v = rem g [] v g.n := fun v hv => by
    rw [hd v hv]
    show ((rem g [] v g.n + 0 : Nat) : Int) = _
    omega
  refine ⟨fun x hx => ((hQ x).1 hx).1, nd, fun v hv => ?_, fun v hv => by rw [hQ]; simp [hv], fun pre v post e x hx hxv => ?_⟩
  · have h3 : cnt g 0 0 v = 0 := rfl
    rw [hd' v hv]; omega
  · exfalso
    have hv := (hQ v).1 (by rw [e]; simp)
    have h1 := hd' v hv.1
    have h2 := sumTo_term (f := fun a => if a ∈ ([] : List Nat) then 0 else cnt g a (g.L a) v) hx
    simp only [List.not_mem_nil, if_false] at h2
    have h3 := cnt_edge hxv
    have h4 : rem g [] v g.n = 0 := by omega
    unfold rem at h4
    simp only [List.not_mem_nil, if_false] at h4
    omega

end Go.Proofs.Qxb6600028a
