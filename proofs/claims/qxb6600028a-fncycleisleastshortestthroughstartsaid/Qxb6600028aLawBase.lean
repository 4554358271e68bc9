import Derived.Test.Qxb6600028aZz
import Derived.Test.Qxb6600028aSmall
namespace Go.Proofs.Qxb6600028a
open Go.RowKit Go.Deep

/-- The graph that the rows say. -/
def toGr (n : Nat) (L : Nat → Nat) (Z : Nat → Nat → Int) : Gr := ⟨n, L, fun u j => (Z u j).toNat⟩

theorem VG.ok {n m : Nat} {X : Nat → Int} {L : Nat → Nat} {Z : Nat → Nat → Int} (h : VG n m X L Z) : GOk (toGr n L Z) := by
  refine ⟨fun u hu j hj => ?_, fun u hu j hj => ?_⟩
  · have := h.rng u hu j hj
    show (Z u j).toNat < n ∧ (Z u j).toNat ≠ u
    omega
  · have h1 := h.rng u hu j (by have : j + 1 < L u := hj; omega)
    have h2 := h.row u hu j hj
    show (Z u j).toNat < (Z u (j + 1)).toNat
    omega

theorem VG.rows {n m : Nat} {X : Nat → Int} {L : Nat → Nat} {Z : Nat → Nat → Int} (h : VG n m X L Z) {w : World} {v : Value} (hr : RowsI w v n L Z) : RowsI w v (toGr n L Z).n (toGr n L Z).L (fun u j => ((toGr n L Z).Z u j : Int)) := by
  obtain ⟨ao, b, o, cap, R, C, rb, ro, hv, hc⟩ := hr
  refine ⟨ao, b, o, cap, R, C, rb, ro, hv, fun u hu => ⟨(hc u hu).1, (hc u hu).2.1, fun j hj => ⟨((hc u hu).2.2 j hj).1, ?_⟩⟩⟩
  rw [((hc u hu).2.2 j hj).2]
  have := (h.rng u hu j hj).1
  show some (Value.int .i64 (Z u j)) = some (Value.int .i64 ((Z u j).toNat : Int))
  rw [Int.toNat_of_nonneg this]

end Go.Proofs.Qxb6600028a
