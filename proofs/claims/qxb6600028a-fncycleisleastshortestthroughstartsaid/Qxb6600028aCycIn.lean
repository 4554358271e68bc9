import Derived.Test.Qxb6600028aBfsWalk
import Derived.Test.Qxb6600028aPredWalk
namespace Go.Proofs.Qxb6600028a
open Go.RowKit Go.Deep

/-- The cells of the cycle. -/
def xvals (X : Nat → Int) (pl : List Nat) : List Value := pl.map fun p => Value.int .i64 (X p)
theorem xvals_snoc (X : Nat → Int) (pl : List Nat) (x : Nat) : xvals X (pl ++ [x]) = xvals X pl ++ [Value.int .i64 (X x)] := by unfold xvals; rw [List.map_append]; rfl

/-- What Cycle hands back where there is a cycle. -/
structure CycOk (g : Gr) (X : Nat → Int) (w' : World) (s : Nat) (D : Nat → Int) (len : Nat) (pl : List Nat) (gc : Nat) : Prop where
  tos : ToS g s D
  gir : Girth g s len
  cyc : CycP g s D len pl
  all : pl.length = len
  cell : ∀ (i y : Nat), pl[i]? = some y → w'.cell? ⟨gc, i, none⟩ = some (.int .i64 (X y))

def RetC (g : Gr) (X : Nat → Int) (l : Int) (w' : World) (e : Ending) : Prop :=
  (l = -1 ∧ e = .returned (.slice none 0 0)) ∨ ∃ (s : Nat) (D : Nat → Int) (len : Nat) (pl : List Nat) (gc cap : Nat), l = s ∧ e = .returned (.slice (some ⟨gc, 0, none⟩) len cap) ∧ CycOk g X w' s D len pl gc

/-- Behind the last loop. -/
def XC (g : Gr) (X : Nat → Int) (s : Nat) (D : Nat → Int) (len : Nat) (wd : World) (a' : Act) (w' : World) : Prop :=
  a'.tmps.size = 184 ∧ a'.defers = [] ∧ wd.Since wd.heap.size w' ∧ ∃ pl, CycP g s D len pl ∧ pl.length = len ∧ w'.ownsRow wd.heap.size 3 1 (slot a' 18) len (xvals X pl)

set_option maxRecDepth 100000 in
set_option maxHeartbeats 2000000 in
theorem cyc_loop (wd : World) (B : Nat) (nb no nc sb s0 sc T0 : Nat) (g : Gr) (X : Nat → Int) (n s : Nat) (D : Nat → Int) (len : Nat) (hgn : g.n = n) (ok : GOk g) (_hn : n ≤ 1048576) (hLb : ∀ u, u < n → g.L u ≤ 1048576) (hs : s < n) (hD : ToS g s D) (hgir : Girth g s len) (hfirst : ∃ i, i < g.L s ∧ D (g.Z s i) = (len : Int) - 1)
    (R : Nat → Option Addr) (C rb ro : Nat → Nat) (hR : RowsA wd sb s0 g n R C rb ro) (hX : ∀ j, j < n → wd.cell? ⟨nb, no + j, none⟩ = some (.int .i64 (X j)))
    (hb0 : wd.cell? ⟨B, 0, none⟩ = some (.slice (some ⟨nb, no, none⟩) n nc)) (hb1 : wd.cell? ⟨B, 1, none⟩ = some (.slice (some ⟨sb, s0, none⟩) n sc)) (hDr : wd.rowIs T0 3 n (fun j => .int .i64 (D j)))
    (f : Nat → Value) (w0 : World) (h1 : f 1 = .pointer (some ⟨B, 0, none⟩)) (h9 : f 9 = .slice (some ⟨T0, 0, none⟩) n n) (h19 : f 19 = .int .i64 s) (h20 : f 20 = .int .i64 len) (hlen : len ≤ 1048577)
    (hS0 : wd.Since wd.heap.size w0) (hO : w0.ownsRow wd.heap.size 3 1 (f 18) 1 (xvals X [s])) :
    Code.wp Try.prog (Code.loop ((loops (Try.f22.body.getD .skip))[6]?.getD .skip)) (QX 12 (XC g X s D len wd)) (mkA 184 f) w0 := by
  conv => arg 2; arg 1; whnf
  have HG : Hid (g.n = n) := hgn
  have HOK : Hid (GOk g) := ok
  have HLb : Hid (∀ u, u < n → g.L u ≤ 1048576) := hLb
  have HD : Hid (ToS g s D) := hD
  have HGI : Hid (Girth g s len) := hgir
  have HF : Hid (∃ i, i < g.L s ∧ D (g.Z s i) = (len : Int) - 1) := hfirst
  have HR : Hid (RowsA wd sb s0 g n R C rb ro) := hR
  have HX : Hid (∀ j, j < n → wd.cell? ⟨nb, no + j, none⟩ = some (.int .i64 (X j))) := hX
  have HB0 : Hid (wd.cell? ⟨B, 0, none⟩ = some (.slice (some ⟨nb, no, none⟩) n nc)) := hb0
  have HB1 : Hid (wd.cell? ⟨B, 1, none⟩ = some (.slice (some ⟨sb, s0, none⟩) n sc)) := hb1
  have HDr : Hid (wd.rowIs T0 3 n (fun j => .int .i64 (D j))) := hDr
  obtain ⟨i3, hi3, hz30, hz31, hz32⟩ := info_parts Try.info3
  rw [mkA_184, h1, h9, h19, h20]
  clear h1 h9 h19 h20 hgn ok hLb hD hgir hfirst hR hX hb0 hb1 hDr
  dsimp only
  go_loopg [18, 19, 20] len (fun gk vc iu il wr => ∃ (pl : List Nat) (u : Nat), Hid (CycP g s D len pl ∧ pl[pl.length - 1]? = some u) ∧ u < n ∧ 1 ≤ pl.length ∧ pl.length ≤ len ∧ gk = len + 1 - pl.length ∧ iu = .int .i64 u ∧ il = .int .i64 ((len : Int) - pl.length + 1) ∧ wd.Since wd.heap.size wr ∧ wr.ownsRow wd.heap.size 3 1 vc pl.length (xvals X pl))
  case atStart =>
    have hl2 := HGI.out.two HOK.out (by rw [HG.out]; exact hs)
    exact ⟨[s], s, ⟨CycP.start (by rw [HG.out]; exact hs) (by omega), rfl⟩, hs, Nat.le_refl _, by simp; omega, by simp, rfl, by simp, hS0, hO⟩
  case round =>
    clear hS0 hO
    obtain ⟨pl, u, hP, hun, hl1, hl2, rfl, rfl, rfl, hS, hO⟩ := hrel
    generalize hpl : pl.length = m at *
    by_cases hlt : m < len
    · -- one place more
      have hnext : ∃ i, i < g.L u ∧ D (g.Z u i) = (len : Int) - m := by
        by_cases e : m = 1
        · have hu : u = s := by
            have h0 := hP.out.1.hd
            have h1 := hP.out.2
            rw [e, Nat.sub_self] at h1
            rw [h0] at h1
            simp at h1
            exact h1.symm
          obtain ⟨i, hi, hd⟩ := HF.out
          refine ⟨i, by rw [hu]; exact hi, ?_⟩
          rw [hu, hd, e]; rfl
        · obtain ⟨k, rfl⟩ : ∃ k, m = k + 2 := ⟨m - 2, by omega⟩
          have hd := hP.out.1.dist (i := k) hP.out.2
          obtain ⟨t, ht⟩ : ∃ t, len = t + (k + 2) := ⟨len - (k + 2), by omega⟩
          obtain ⟨i, hi, hd2⟩ := next_of HOK.out HD.out (u := u) (t := t) (by rw [HG.out]; exact hun) (by rw [hd, ht]; omega)
          exact ⟨i, hi, by rw [hd2, ht]; omega⟩
      have HNX : Hid (∃ i, i < g.L u ∧ D (g.Z u i) = (len : Int) - m) := hnext
      obtain ⟨hrow, hents⟩ := HR.out u hun
      have hLu := HLb.out u hun
      obtain ⟨i0, hi0, -⟩ := hnext
      rw [(hents 0 (by omega)).1] at hrow
      have HE : Hid (∀ j, j < g.L u → wd.cell? ⟨rb u, ro u + j, none⟩ = some (.int .i64 (g.Z u j))) := fun j hj => (hents j hj).2
      have c0 : wr.cell? ⟨sb, s0 + u, none⟩ = some (.slice (some ⟨rb u, ro u, none⟩) (g.L u) (C u)) := by rw [hS.cell (a := ⟨sb, s0 + u, none⟩) (World.block_lt_of_cell? _ _ hrow)]; exact hrow
      have c1 : wr.cell? ⟨B, 1, none⟩ = some (.slice (some ⟨sb, s0, none⟩) n sc) := by rw [hS.cell (a := ⟨B, 1, none⟩) (World.block_lt_of_cell? _ _ HB1.out)]; exact HB1.out
      have HS : Hid (wd.Since wd.heap.size wr) := hS
      have HO : Hid (wr.ownsRow wd.heap.size 3 1 u18 m (xvals X pl)) := hO
      have HPL : Hid (pl.length = m) := hpl
      clear hrow hents hi0 hS hO hpl
      go_wp2
      clear c0 c1
      go_loopg [19, 162] (g.L u) (fun gk iu ij wx => wr = wx ∧ ∃ j : Nat, j ≤ g.L u ∧ gk = g.L u - j ∧ iu = .int .i64 u ∧ ij = .int .i64 j ∧ Hid (∀ j', j' < j → D (g.Z u j') ≠ (len : Int) - m))
      case atStart => exact ⟨rfl, 0, Nat.zero_le _, rfl, rfl, rfl, fun j' hj' => by omega⟩
      case round =>
        obtain ⟨rfl, j, hj, rfl, rfl, rfl, hno⟩ := hrel
        have hlj : j < g.L u := by
          obtain ⟨i, hi, hd⟩ := HNX.out
          rcases Nat.lt_or_ge j (g.L u) with h | h
          · exact h
          · exact absurd hd (hno.out i (by omega))
        obtain ⟨x, hzx⟩ : ∃ x, g.Z u j = x := ⟨_, rfl⟩
        have hxn : x < n := by
          have := (HOK.out.rng u (by rw [HG.out]; exact hun) j hlj).1
          rw [HG.out, hzx] at this
          exact this
        have h0 := HE.out j hlj
        rw [hzx] at h0
        have d0 : wr.cell? ⟨rb u, ro u + j, none⟩ = some (.int .i64 x) := by rw [HS.out.cell (a := ⟨rb u, ro u + j, none⟩) (World.block_lt_of_cell? _ _ h0)]; exact h0
        have h1 := HDr.out.cell hxn
        have d1 : wr.cell? ⟨T0, x, none⟩ = some (.int .i64 (D x)) := by rw [HS.out.cell (a := ⟨T0, x, none⟩) (World.block_lt_of_cell? _ _ h1)]; exact h1
        have HZX : Hid (g.Z u j = x) := hzx
        clear h0 h1 hzx
        by_cases hd : D x = (len : Int) - m
        · have hd' : (D x == (len : Int) - m) = true := by simpa using hd
          have h2 := HX.out x hxn
          have d2 : wr.cell? ⟨nb, no + x, none⟩ = some (.int .i64 (X x)) := by rw [HS.out.cell (a := ⟨nb, no + x, none⟩) (World.block_lt_of_cell? _ _ h2)]; exact h2
          have d3 : wr.cell? ⟨B, 0, none⟩ = some (.slice (some ⟨nb, no, none⟩) n nc) := by rw [HS.out.cell (a := ⟨B, 0, none⟩) (World.block_lt_of_cell? _ _ HB0.out)]; exact HB0.out
          have HDX : Hid (D x = (len : Int) - m) := hd
          have hwz := HS.out.size
          generalize hdx : D x = dx at *
          have HDE : Hid (D x = dx) := hdx
          clear h2 hd hdx
          go_wp2_with (at_builtin; refine wpList_append_own _ rfl (.tmp 175) (.tmp 181) 22 rfl wd.heap.size 3 i3 (.int .i64 0) 1 8 Try.underlying22 hi3 hz30 hz31 hz32 rfl (by decide) u18 m (xvals X pl) rfl ?qown ⟨wr.heap.size, 0, none⟩ 1 1 [.int .i64 (X x)] rfl rfl ?qc1 ?qc2 ?qc3 ?qc4 ?qc5 ?_)
          case qown => exact HO.out.alloc _
          case qc1 => exact cells_new _ _ rfl [_] _
          case qc2 => intro y hy; simp at hy; subst hy; rfl
          case qc3 => unfold maxLen; omega
          case qc4 => omega
          case qc5 => simp; omega
          intro v1 w1 hown1 hgrow1 _
          have HS1 : Hid (wd.Since wd.heap.size w1) := (HS.out.alloc HS.out.size _).grown hgrow1 (by rw [nblk_alloc]; omega) (fun k e => (ownsRow_block HO.out e).1)
          have HO1 : Hid (w1.ownsRow wd.heap.size 3 1 v1 (m + 1) (xvals X (pl ++ [x]))) := by unfold Hid; rw [xvals_snoc]; exact hown1
          clear hown1 hgrow1 d0 d1 d2 d3
          go_wp2
          go_roundg (len + 1 - (m + 1))
          case measure => omega
          case rel =>
            have hl : (pl ++ [x]).length = m + 1 := by rw [List.length_append, HPL.out]; rfl
            refine ⟨pl ++ [x], x, ⟨?_, ?_⟩, hxn, by omega, by omega, by rw [hl], rfl, by rw [hl]; go_num, HS1.out, by rw [hl]; exact HO1.out⟩
            · have h3 := hP.out.1.snoc (u := u) (j := j) (by rw [HPL.out]; exact hlt) (by rw [HPL.out]; exact hP.out.2) hlj (by rw [HZX.out, HG.out]; exact hxn) (by rw [HZX.out, HPL.out, HDE.out]; exact HDX.out) (by rw [HPL.out]; exact hno.out)
              rw [HZX.out] at h3
              exact h3
            · rw [hl, Nat.add_sub_cancel, List.getElem?_append_right (by rw [HPL.out]; exact Nat.le_refl _), HPL.out, Nat.sub_self]; rfl
        · have hd' : (D x == (len : Int) - m) = false := by simpa using hd
          have HDX : Hid (¬ D x = (len : Int) - m) := hd
          clear hd
          generalize hdx : D x = dx at *
          have HDE : Hid (D x = dx) := hdx
          clear hdx
          go_wp2
          go_roundg (g.L u - (j + 1))
          case measure => omega
          case rel =>
            refine ⟨rfl, j + 1, by omega, rfl, rfl, by go_num, fun j' hj' => ?_⟩
            by_cases e : j' = j
            · rw [e, HZX.out, HDE.out]; exact HDX.out
            · exact hno.out j' (by omega)
    · go_wp2
      have e : m = len := by omega
      rw [e] at hpl hO
      exact ⟨rfl, rfl, rfl, hS, pl, hP.out.1, hpl, hO⟩
end Go.Proofs.Qxb6600028a
