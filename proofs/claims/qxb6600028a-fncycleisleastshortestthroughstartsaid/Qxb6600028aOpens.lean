import Derived.Test.Qxb6600028aBase
import Derived.ProofKit
import Derived.Deep.Matrix
namespace Go.Proofs.Qxb6600028a
open Go.ChangeShapes Go.WideShapes Go.ChangeAt Go.RowKit Go.Deep

theorem open_IntsI {H : Type} {enc : TypeId × Value → H} {W : World} {fuel : Nat} {a0 : Option Addr} {len0 cap0 : Nat} {x : DataW H × List MemPlace}
    (hf : DataW.trod enc Try.prog W 0 (fun _ => true) true fuel 22 (Value.slice a0 len0 cap0).cells.toList = some x) : ∃ X, IntsI W 0 (.slice a0 len0 cap0) len0 X ∧ len0 ≤ 9223372036854775807 := by
  rcases open_ints Try.underlying22 Try.underlying3 (by kernel_rfl) hf with ⟨hcs, _⟩ | ⟨⟨b, o, sp⟩, l, c, zs, hcs, _, hl, hm, hz, _, hcell, _⟩
  · simp [Value.cells] at hcs
    obtain ⟨rfl, rfl, rfl⟩ := hcs
    exact ⟨fun _ => 0, ⟨none, 0, 0, 0, rfl, fun j hj => by omega⟩, by omega⟩
  · simp [Value.cells] at hcs
    obtain ⟨rfl, rfl, rfl⟩ := hcs
    simp only [if_true] at hz
    unfold maxLen at hm
    refine ⟨fun j => zs.getD j 0, ⟨_, b, o, _, rfl, fun j hj => ?_⟩, by omega⟩
    have hsp : sp = none := by simpa [Addr.add] using World.cell?_spot (hcell 0 (by omega))
    subst hsp
    refine ⟨rfl, Nat.zero_le _, ?_⟩
    have := hcell j (by omega)
    rwa [add_plain] at this

theorem open_RowsI {H : Type} {enc : TypeId × Value → H} {W : World} {fuel : Nat} {a0 : Option Addr} {len0 cap0 : Nat} {x : DataW H × List MemPlace}
    (hf : DataW.trod enc Try.prog W 0 (fun _ => true) true fuel 23 (Value.slice a0 len0 cap0).cells.toList = some x) :
    ∃ L Z, RowsI W (.slice a0 len0 cap0) len0 L Z ∧ len0 ≤ 9223372036854775807 ∧ ∀ u, u < len0 → L u ≤ 9223372036854775807 := by
  rcases open_int_rows Try.underlying23 Try.underlying22 Try.underlying3 (by kernel_rfl) (by kernel_rfl) hf with ⟨hcs, _⟩ | ⟨⟨b, o, sp⟩, l, c, A, L, C, Zs, hcs, _, hl, hm, _, hrows⟩
  · simp [Value.cells] at hcs
    obtain ⟨rfl, rfl, rfl⟩ := hcs
    exact ⟨fun _ => 0, fun _ _ => 0, ⟨none, 0, 0, 0, fun _ => none, fun _ => 0, fun _ => 0, fun _ => 0, rfl, fun j hj => by omega⟩, by omega, fun u hu => by omega⟩
  · simp [Value.cells] at hcs
    obtain ⟨rfl, rfl, rfl⟩ := hcs
    unfold maxLen at hm
    refine ⟨L, fun u j => (Zs u).getD j 0, ⟨_, b, o, _, A, C, fun u => ((A u).getD default).block, fun u => ((A u).getD default).off, rfl, fun u hu => ?_⟩, by omega, fun u hu => ?_⟩
    · obtain ⟨h1, h2, h3, h4, h5, h6, h7⟩ := hrows u (by omega)
      have hsp : sp = none := by simpa [Addr.add] using World.cell?_spot (hrows 0 (by omega)).1
      subst hsp
      refine ⟨rfl, by rwa [add_plain] at h1, fun j hj => ?_⟩
      cases hA : A u with
      | none => have := h6 hA; omega
      | some a' =>
        obtain ⟨ab, ao, asp⟩ := a'
        obtain ⟨_, hcell⟩ := h7 _ hA
        have has : asp = none := by simpa [Addr.add] using World.cell?_spot (hcell 0 (by omega))
        subst has
        have e1 : ((A u).getD default).block = ab := by rw [hA]; rfl
        have e2 : ((A u).getD default).off = ao := by rw [hA]; rfl
        refine ⟨by simp only [e1, e2], ?_⟩
        have := hcell j (by omega)
        rw [add_plain] at this
        simp only [e1, e2]
        exact this
    · obtain ⟨_, h2, h3, _⟩ := hrows u (by omega)
      unfold maxLen at h3
      omega
end Go.Proofs.Qxb6600028a
