import Derived.Test.Qxb6601152aMap
import Derived.ProofKit
import Derived.Deep.Matrix
namespace Go.Proofs.Qxb6601152a
open Go.ChangeShapes Go.WideShapes Go.ChangeAt Go.RowKit Go.Deep

theorem Try.cells36 : Try.prog.cellsOf 36 = 11 := by kernel_rfl
theorem Try.cells5 : Try.prog.cellsOf 5 = 1 := by kernel_rfl
theorem Try.cells9' : Try.prog.cellsOf 9 = 1 := by kernel_rfl

instance : Inhabited ZM := ⟨⟨0, 0, 0, 0, 0, ByteArray.mk #[], 0, 0, ByteArray.mk #[], 0, 0⟩⟩

theorem open_IntsI {H : Type} {enc : TypeId × Value → H} {W : World} {fuel : Nat} {a0 : Option Addr} {len0 cap0 : Nat} {x : DataW H × List MemPlace}
    (hf : DataW.trod enc Try.prog W 0 (fun _ => true) true fuel 22 (Value.slice a0 len0 cap0).cells.toList = some x) : ∃ X, IntsI W 0 (.slice a0 len0 cap0) len0 X ∧ len0 ≤ 9223372036854775807 := by
  rcases open_ints Try.underlying22 Try.underlying30 (by kernel_rfl) hf with ⟨hcs, _⟩ | ⟨⟨b, o, sp⟩, l, c, zs, hcs, _, hl, hm, hz, _, hcell, _⟩
  · simp [Value.cells] at hcs
    obtain ⟨rfl, rfl, rfl⟩ := hcs
    exact ⟨fun _ => 0, ⟨none, 0, 0, 0, rfl, fun j hj => by omega⟩, by omega⟩
  · simp [Value.cells] at hcs
    obtain ⟨rfl, rfl, rfl⟩ := hcs
    simp only [if_true] at hz
    unfold maxLen at hm
    refine ⟨fun j => zs.getD j 0, ⟨_, b, o, _, rfl, fun j hj => ?_⟩, by omega⟩
    have hsp : sp = none := by simpa [Addr.add] using World.cell?_spot (hcell 0 (by omega))
    subst hsp
    refine ⟨rfl, Nat.zero_le _, ?_⟩
    have := hcell j (by omega)
    rwa [add_plain] at this

theorem open_MsgsI {H : Type} {enc : TypeId × Value → H} {W : World} {fuel : Nat} {a0 : Option Addr} {len0 cap0 : Nat} {x : DataW H × List MemPlace}
    (hf : DataW.trod enc Try.prog W 0 (fun _ => true) true fuel 23 (Value.slice a0 len0 cap0).cells.toList = some x) :
    ∃ M, MsgsI W 0 (.slice a0 len0 cap0) len0 M ∧ len0 ≤ 9223372036854775807 ∧ ∀ u, u < len0 → ((M u).vl.size ≤ 9223372036854775807 ∧ (M u).pv.size ≤ 9223372036854775807) ∧ wfb (M u).br (M u).bn := by
  rcases open_slice Try.underlying23 hf with ⟨hcs, _⟩ | ⟨⟨b, o, sp⟩, l, c, m, n, D, Pl, hcs, _, hl, hm, hmm, _, hx⟩
  · simp [Value.cells] at hcs
    obtain ⟨rfl, rfl, rfl⟩ := hcs
    exact ⟨fun _ => ⟨0, 0, 0, 0, 0, ByteArray.mk #[], 0, 0, ByteArray.mk #[], 0, 0⟩, ⟨none, 0, 0, 0, rfl, fun j hj => by omega⟩, by omega, fun u hu => by omega⟩
  · simp [Value.cells] at hcs
    obtain ⟨rfl, rfl, rfl⟩ := hcs
    simp only [if_true] at hmm
    subst hmm
    unfold maxLen at hm
    have hspo : 0 < len0 → sp = none := by
      intro h0
      obtain ⟨cs', h1, _⟩ := hx 0 (by omega)
      rw [Try.cells36] at h1
      obtain ⟨_, hlen, hcell⟩ := World.cells?_some h1
      have h2 := hcell 0 (by omega)
      rw [List.getElem?_eq_getElem (by omega)] at h2
      simpa [Addr.add] using World.cell?_spot h2
    have each : ∀ i, i < len0 → ∃ z : ZM, sp = none ∧ W.rangeAt b (o + i * 11) z.cells ∧ (z.vl.size ≤ 9223372036854775807 ∧ z.pv.size ≤ 9223372036854775807) ∧ wfb z.br z.bn := by
      intro i hi
      obtain ⟨cs', h1, h2⟩ := hx i (by omega)
      obtain rfl := hspo (by omega)
      rw [Try.cells36] at h1
      obtain ⟨_, hlen, hcell⟩ := World.cells?_some h1
      obtain ⟨xs, k, _, _, _, hxl, hfd⟩ := DataW.trod_struct Try.underlying36 h2
      clear h1 h2
      match xs, hxl, cs', hlen with
      | [y0, y1, y2, y3, y4, y5, y6, y7, y8, y9, y10], _, [v0, v1, v2, v3, v4, v5, v6, v7, v8, v9, v10], _ =>
        have g0 := hfd 0 _ rfl
        simp [Try.cells5] at g0
        obtain ⟨n0, e0, _, w0⟩ := DataW.trod_int Try.underlying5 g0
        have g1 := hfd 1 _ rfl
        simp [Try.cells30] at g1
        obtain ⟨n1, e1, _, w1⟩ := DataW.trod_int Try.underlying30 g1
        have g2 := hfd 2 _ rfl
        simp [Try.cells30] at g2
        obtain ⟨n2, e2, _, w2⟩ := DataW.trod_int Try.underlying30 g2
        have g3 := hfd 3 _ rfl
        simp [Try.cells30] at g3
        obtain ⟨n3, e3, _, w3⟩ := DataW.trod_int Try.underlying30 g3
        have g4 := hfd 4 _ rfl
        simp [Try.cells30] at g4
        obtain ⟨n4, e4, _, w4⟩ := DataW.trod_int Try.underlying30 g4
        have g5 := hfd 5 _ rfl
        simp [Try.cells9'] at g5
        obtain ⟨n5, e5, _, w5⟩ := DataW.trod_string Try.underlying9 g5
        have g6 := hfd 6 _ rfl
        simp [Try.cells30] at g6
        obtain ⟨n6, e6, _, w6⟩ := DataW.trod_int Try.underlying30 g6
        have g7 := hfd 7 _ rfl
        simp [Try.cells30] at g7
        obtain ⟨n7, e7, _, w7⟩ := DataW.trod_int Try.underlying30 g7
        have g8 := hfd 8 _ rfl
        simp [Try.cells9'] at g8
        obtain ⟨n8, e8, _, w8⟩ := DataW.trod_string Try.underlying9 g8
        have g9 := hfd 9 _ rfl
        simp [Try.cells30] at g9
        obtain ⟨n9, e9, _, w9⟩ := DataW.trod_int Try.underlying30 g9
        have g10 := hfd 10 _ rfl
        simp [Try.cells30] at g10
        obtain ⟨n10, e10, _, w10⟩ := DataW.trod_int Try.underlying30 g10
        simp only [List.cons.injEq, and_true] at e0 e1 e2 e3 e4 e5 e6 e7 e8 e9 e10
        subst e0 e1 e2 e3 e4 e5 e6 e7 e8 e9 e10
        refine ⟨⟨n0, n1, n2, n3, n4, n5, n6, n7, n8, n9, n10⟩, rfl, fun q v hv => ?_, ⟨by unfold maxLen at w5; exact w5, by unfold maxLen at w8; exact w8⟩, w3, w4⟩
        have hq : q < 11 := (List.getElem?_eq_some_iff.1 hv).1
        have := hcell q hq
        rw [add_add, add_plain] at this
        rw [show o + i * 11 + q = o + (i * 11 + q) by omega, this]
        exact hv
    obtain ⟨M, hM⟩ := choose_lt each
    refine ⟨M, ⟨_, b, o, _, rfl, fun j hj => ⟨by rw [hspo (by omega)], Nat.zero_le _, (hM j hj).2.1⟩⟩, by omega, fun u hu => (hM u hu).2.2⟩
end Go.Proofs.Qxb6601152a
