import Derived.Test.Qxb6600028aLowest
namespace Go.Proofs.Qxb6600028a
open Go.RowKit Go.Deep

set_option maxHeartbeats 400000 in
theorem newGraph (nv sv : Value) (w : World) (ao : Option Addr) (n c : Nat) (so : Option Addr) (m d : Nat) (hn : nv = .slice ao n c) (hs : sv = .slice so m d) :
    Calls Try.prog 16 #[nv, sv] w fun e w' => e = .returned (.agg #[nv, sv]) ∧ w.Since w.heap.size w' := by
  subst hn hs
  go_enter Try.func16, Try.ntmps16
  go_wp2
  exact bodyPost_ret (v := .agg #[.slice ao n c, .slice so m d]) (by simp [results, Try.results16, go_sem]) rfl ⟨rfl, (World.Since.refl _ _).alloc (Nat.le_refl _) _⟩

set_option maxHeartbeats 400000 in
theorem zzLowest (nv sv : Value) (g : Gr) (X : Nat → Int) (w : World) (ok : GOk g) (hn : g.n ≤ 1048576) (hL : ∀ u, u < g.n → g.L u ≤ 1048576)
    (hN : IntsI w 0 nv g.n X) (hS : RowsI w sv g.n g.L (fun u j => (g.Z u j : Int))) :
    Calls Try.prog 15 #[.agg #[nv, sv]] w fun e w' => RetL g e ∧ w.Since w.heap.size w' := by
  have hb : ∀ o, w.Since w.heap.size (w.alloc o) := fun o => (World.Since.refl _ _).alloc (Nat.le_refl _) _
  have HC : Hid (∀ o, Calls Try.prog 28 #[.agg #[nv, sv]] (w.alloc o) fun e w' => RetL g e ∧ (w.alloc o).Since (w.alloc o).heap.size w') := fun o => lowest nv sv g X (w.alloc o) ok hn hL (hN.since (hb o)) (hS.since (hb o))
  have HS : Hid (∃ a n c so m d, nv = .slice a n c ∧ sv = .slice so m d) := by
    obtain ⟨a, _, _, c, h, _⟩ := hN
    obtain ⟨so, _, _, d, _, _, _, _, h', _⟩ := hS
    exact ⟨a, _, c, so, _, d, h, h'⟩
  clear hN hS
  obtain ⟨a, n, c, so, m, d, rfl, rfl⟩ := HS.out
  clear HS
  go_enter Try.func15, Try.ntmps15
  go_wp2_with fail
  refine (HC.out _).mono ?_
  rintro e w1 ⟨⟨l, rfl, hl⟩, hs⟩
  go_wp2
  go_ret
  exact ⟨⟨_, rfl, hl⟩, (hb _).trans (since_le hs (by simp))⟩
end Go.Proofs.Qxb6600028a
