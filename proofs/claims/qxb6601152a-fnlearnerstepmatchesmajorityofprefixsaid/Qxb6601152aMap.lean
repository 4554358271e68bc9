import Derived.Test.Qxb6601152aCount
import Derived.Maps.OwnSet
import Derived.DeepKeys4
namespace Go.Proofs.Qxb6601152a
open Go.RowKit Go.Deep
open Go.Maps (Keyed)

theorem Try.laidOut : laidOutB Try.prog = true := by kernel_rfl
theorem Try.row32 : (32 : TypeId) < Try.prog.types.size := of_decide_eq_true (by kernel_rfl)
theorem Try.typesSize : Try.prog.types.size = 81 := by kernel_rfl
theorem Try.cells32 : Try.prog.cellsOf 32 = 2 := by kernel_rfl
theorem Try.cells30 : Try.prog.cellsOf 30 = 1 := by kernel_rfl
theorem Try.keyType32 : Try.prog.keyType 32 = true := by kernel_rfl
theorem Try.wide32 : (match Try.prog.underlying 32 with | some (.array _ _) | some (.struct _) => true | _ => false) = true := by rw [Try.underlying32]
theorem Try.law32 : Keyed Try.prog 32 := Keyed.of_law (deep_law_laid Try.laidOut (m := 2) (by omega) Try.row32 (by kernel_rfl) Try.wide32)

/-- A ballot as a value, and as a key. -/
def kv (r d : Int) : Value := .agg #[.int .u64 r, .int .u64 d]
def kl (r d : Int) : Lit := .string (keyBytes [.int .u64 r, .int .u64 d])
def wfb (r d : Int) : Prop := (Lit.int .u64 r).wf = true ∧ (Lit.int .u64 d).wf = true

theorem lits30 {r : Int} (h : (Lit.int .u64 r).wf = true) (m : Nat) : Try.prog.keyLits (m + 1) 30 [.int .u64 r] = some [.int .u64 r] := by
  unfold Program.keyLits
  rw [Try.underlying30]
  simp [h]

theorem lits32 {r d : Int} (h : wfb r d) (m : Nat) : Try.prog.keyLits (m + 2) 32 [.int .u64 r, .int .u64 d] = some [.int .u64 r, .int .u64 d] := by
  unfold Program.keyLits
  rw [Try.underlying32]
  simp [Try.cells32, Try.cells30, lits30 h.1, lits30 h.2]

theorem key_ok {r d : Int} (h : wfb r d) : keyOf Try.prog 32 (kv r d) = some (kl r d) := by
  unfold keyOf
  rw [Try.underlying32]
  have hf : (kv r d).formed Try.prog 32 = true := by simp [kv, Value.formed, Try.underlying32, Try.cells32]
  have hs : Try.prog.types.size + 1 = 80 + 2 := by rw [Try.typesSize]
  simp only [Try.keyType32, hf, Bool.and_self, if_true, hs]
  rw [show (kv r d).cells.toList = [.int .u64 r, .int .u64 d] from rfl, lits32 h 80]
  rfl

theorem kl_inj {r d r' d' : Int} (h : wfb r d) (h' : wfb r' d') (e : kl r d = kl r' d') : r = r' ∧ d = d' := by
  have := Try.law32.inj (key_ok h) (by rw [e]; exact key_ok h')
  simpa [kv] using this

/-- Every value reads as itself. -/
def tokR (v : Value) : Option (DataW Value × List MemPlace) := some (.held v, [])

/-- Block mb is a map of at most n entries that holds F. -/
def MapF (w : World) (mb n : Nat) (F : Int → Int → Option Value) : Prop :=
  ∃ D : DataW Value, w.ownsMap Try.prog 32 tokR mb n D ∧ ∀ r d, wfb r d →
    (F r d = none → Maps.has D (kl r d) = false) ∧ ∀ v, F r d = some v → Maps.has D (kl r d) = true ∧ ∀ z, D.atKey (kl r d) z = .held v

theorem MapF.kept {w w' : World} {mb n : Nat} {F : Int → Int → Option Value} (h : MapF w mb n F) (e : w'.heap[mb]? = w.heap[mb]?) : MapF w' mb n F := by
  obtain ⟨D, ⟨es, clock, hb, r⟩, hF⟩ := h
  exact ⟨D, ⟨es, clock, by rw [e]; exact hb, r⟩, hF⟩

theorem MapF.made (w : World) : MapF (w.alloc (.map #[] 0)) w.heap.size 0 (fun _ _ => none) :=
  ⟨.map [], World.ownsMap_made w _ _ _, fun r d _ => ⟨fun _ => rfl, fun v h => by simp at h⟩⟩

theorem MapF.lt {w : World} {mb n : Nat} {F : Int → Int → Option Value} (h : MapF w mb n F) : mb < w.heap.size := by
  obtain ⟨D, ho, _⟩ := h
  exact ho.lt

theorem MapF.isMap {w : World} {mb n : Nat} {F : Int → Int → Option Value} (h : MapF w mb n F) : ∃ es clock, w.heap[mb]? = some (.map es clock) := by
  obtain ⟨D, ⟨es, clock, hb, r⟩, hF⟩ := h
  exact ⟨es, clock, hb⟩

theorem Try.zero50 (w : World) : (zeroValue 50).run Try.prog w = .ok (.agg #[.slice none 0 0, .slice none 0 0]) w := by kernel_rfl

theorem MapF.look {w : World} {mb n : Nat} {F : Int → Int → Option Value} (h : MapF w mb n F) {r d : Int} (hk : wfb r d) :
    (Instr.lookup 45 (.map (some mb)) (.agg #[.int .u64 r, .int .u64 d]) true).run Try.prog w = .ok (.tuple #[(F r d).getD (.agg #[.slice none 0 0, .slice none 0 0]), .bool (F r d).isSome]) w := by
  obtain ⟨D, ho, hF⟩ := h
  obtain ⟨v, ps, hrun, hv⟩ := ho.look_ok Try.law32 Try.underlying45 (Try.zero50 w) (zd := .held (.agg #[.slice none 0 0, .slice none 0 0])) (zp := []) rfl (key_ok hk)
  simp only [tokR, Option.some.injEq, Prod.mk.injEq] at hv
  rw [show (Value.agg #[.int .u64 r, .int .u64 d]) = kv r d from rfl, hrun]
  obtain ⟨h1, h2⟩ := hF r d hk
  cases hf : F r d with
  | none =>
    have hn := h1 hf
    rw [Maps.atKey_of_not_has hn] at hv
    have := hv.1
    simp only [DataW.held.injEq] at this
    simp [hn, this]
  | some u =>
    obtain ⟨hh, ha⟩ := h2 u hf
    rw [ha] at hv
    have := hv.1
    simp only [DataW.held.injEq] at this
    simp [hh, this]

theorem MapF.store {w : World} {mb n : Nat} {F : Int → Int → Option Value} (h : MapF w mb n F) (hn : n < maxLen) {r d : Int} (hk : wfb r d) (v : Value) :
    ∃ w', (Instr.mapUpdate 45 (.map (some mb)) (.agg #[.int .u64 r, .int .u64 d]) v).run Try.prog w = .ok () w' ∧ MapF w' mb (n + 1) (fun r' d' => if r' = r ∧ d' = d then some v else F r' d') ∧
      Kp w (fun b => b = mb) w' := by
  obtain ⟨D, ho, hF⟩ := h
  obtain ⟨w', hrun, ho', ht⟩ := ho.store Try.law32 Try.underlying45 hn (val := v) (key_ok hk) (d := .held v) (ps := []) rfl
  refine ⟨w', hrun, ⟨_, ho', fun r' d' hk' => ?_⟩, Kp.grown ht.grown (fun b e _ => (Option.some.inj e).symm)⟩
  have hm := ho.isMap
  have hkl := Try.law32.key (key_ok hk)
  by_cases e : r' = r ∧ d' = d
  · obtain ⟨rfl, rfl⟩ := e
    simp only [and_self, if_true]
    refine ⟨fun h => by simp at h, fun u hu => ?_⟩
    simp only [Option.some.injEq] at hu
    subst hu
    exact ⟨Maps.has_put_same hm hkl _, fun z => Maps.atKey_put_same hm hkl _ z⟩
  · simp only [e, if_false]
    have hne : kl r' d' ≠ kl r d := fun h => e (kl_inj hk' hk h)
    obtain ⟨h1, h2⟩ := hF r' d' hk'
    refine ⟨fun h => by rw [Maps.has_put_other hne]; exact h1 h, fun u hu => ?_⟩
    rw [Maps.has_put_other hne]
    exact ⟨(h2 u hu).1, fun z => by rw [Maps.atKey_put_other hne]; exact (h2 u hu).2 z⟩
end Go.Proofs.Qxb6601152a
