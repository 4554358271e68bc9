import Derived.Test.Qxb6601152aCopy
namespace Go.Proofs.Qxb6601152a
open Go.RowKit Go.Deep

theorem since_setCells {B : Nat} {b : Nat} (hb : B ≤ b) {w : World} : ∀ (vs : List Value) (o : Nat) (w' : World), w.Since B w' → w.Since B (w'.setCells b o vs)
  | [], _, _, h => h
  | v :: r, o, w', h => by
    rw [World.setCells]
    exact since_setCells hb r (o + 1) _ (h.setCell hb v)

theorem there_of_block {w : World} {b n : Nat} {C : Array Value} {t : TypeId} (hb : w.heap[b]? = some (.cells C t (0, 0))) (hn : C.size = n) : w.there b 0 n := fun j hj => by
  refine ⟨?_, by simp [World.frozen?, hb]⟩
  rw [cell_of_row w b (0 + j) C t _ hb, Nat.zero_add, Array.getElem?_eq_getElem (by omega)]
  rfl

theorem Try.info36 : (Try.prog.info? 36).map (fun i => (i.zero, i.size, i.bytes)) = some (some (.agg #[.int .u8 0, .int .u64 0, .int .u64 0, .int .u64 0, .int .u64 0, .string (ByteArray.mk #[]), .int .u64 0, .int .u64 0, .string (ByteArray.mk #[]), .int .u64 0, .int .u64 0]), 11, 104) := by kernel_rfl

theorem ZM.length_cells (z : ZM) : z.cells.length = 11 := rfl
theorem ZM.one (z : ZM) : z.cells.toArray.all (·.oneCell') = true := by
  apply all_oneCell_toArray
  intro v hv
  simp [ZM.cells] at hv
  rcases hv with rfl | rfl | rfl | rfl | rfl | rfl | rfl | rfl | rfl | rfl | rfl <;> rfl

theorem run_make36 (n : Nat) (hn : n ≤ 1048576) (w : World) : (Instr.makeSlice 23 (.int .i64 (n : Int)) (.int .i64 (n : Int))).run Try.prog w =
    .ok (.slice (some ⟨w.heap.size, 0, none⟩) n n) (w.alloc (.cells (madeCells #[.int .u8 0, .int .u64 0, .int .u64 0, .int .u64 0, .int .u64 0, .string (ByteArray.mk #[]), .int .u64 0, .int .u64 0, .string (ByteArray.mk #[]), .int .u64 0, .int .u64 0] (n * 11)) 36)) := by
  obtain ⟨i, hi, hzz⟩ := Option.map_eq_some_iff.1 Try.info36
  simp only [Prod.mk.injEq] at hzz
  obtain ⟨hz, hs, hb⟩ := hzz
  have := run_make (P := Try.prog) w 23 36 i _ Try.underlying23 hi hz .i64 .i64 n n (by omega) (Int.le_refl _) (by rw [hb]; omega) (by omega)
  rw [this, hs]
  rfl

set_option maxHeartbeats 1000000 in
theorem zzCloneMsgs (v : Value) (n : Nat) (M : Nat → ZM) (w : World) (hn : n ≤ 1048576) (hN : MsgsI w 0 v n M) :
    Calls Try.prog 8 #[v] w fun e w' => RetS n (fun ao cap => MsgsI w' w.heap.size (.slice ao n cap) n M) e ∧ w.Since w.heap.size w' := by
  obtain ⟨ao, b, o, cap, rfl, hc⟩ := hN
  have hnil := nil23
  cases ao with
  | none =>
    obtain rfl : n = 0 := by
      rcases Nat.eq_zero_or_pos n with h | h
      · exact h
      · have := (hc 0 h).1; simp at this
    go_enter Try.func8, Try.ntmps8
    go_wp2
    go_ret
    exact ⟨⟨_, _, rfl, none, 0, 0, 0, rfl, fun j hj => by omega⟩, World.Since.refl _ _⟩
  | some a =>
    have hmk := run_make36 n hn
    go_enter Try.func8, Try.ntmps8
    go_wp2
    go_loopg [4] n (fun g i wr => ∃ k : Nat, k ≤ n ∧ g = n - k ∧ i = .int .i64 k ∧ w.Since w.heap.size wr ∧ wr.there w.heap.size 0 (n * 11) ∧ ∀ j, j < k → wr.rangeAt w.heap.size (j * 11) (M j).cells)
    case atStart =>
      exact ⟨0, Nat.zero_le _, rfl, rfl, (World.Since.refl _ _).alloc (Nat.le_refl _) _, there_of_block (heap_alloc_last w _) (size_madeCells _ _), fun j hj => by omega⟩
    case round =>
      obtain ⟨k, hk, rfl, rfl, hs, ht, hr⟩ := hrel
      clear hmk hnil
      by_cases hlt : k < n
      · obtain ⟨ha, _, hcc⟩ := hc k hlt
        simp only [Option.some.injEq] at ha
        have h1 := rangeAt_block hcc (hs.block _ (rangeAt_lt hcc))
        have h2 : wr.there w.heap.size (k * 11) 11 := fun j hj => by
          have := ht (k * 11 + j) (by omega)
          simpa using this
        subst ha
        have HT : Hid (wr.there w.heap.size 0 (n * 11)) := ht
        have HR : Hid (∀ j, j < k → wr.rangeAt w.heap.size (j * 11) (M j).cells) := hr
        have h2' : Hid (wr.there w.heap.size (k * 11) (M k).cells.length) := h2
        clear hcc hc ht hr
        have r0 : wr.cell? ⟨b, o + k * 11, none⟩ = some (.int .u8 (M k).ty) := h1 0 _ rfl
        have r1 : wr.cell? ⟨b, o + k * 11 + 1, none⟩ = some (.int .u64 (M k).fr) := h1 1 _ rfl
        have r2 : wr.cell? ⟨b, o + k * 11 + 2, none⟩ = some (.int .u64 (M k).tt) := h1 2 _ rfl
        have r3 : wr.cell? ⟨b, o + k * 11 + 3, none⟩ = some (.int .u64 (M k).br) := h1 3 _ rfl
        have r4 : wr.cell? ⟨b, o + k * 11 + 4, none⟩ = some (.int .u64 (M k).bn) := h1 4 _ rfl
        have r5 : wr.cell? ⟨b, o + k * 11 + 5, none⟩ = some (.string (M k).vl) := h1 5 _ rfl
        have r6 : wr.cell? ⟨b, o + k * 11 + 6, none⟩ = some (.int .u64 (M k).pr) := h1 6 _ rfl
        have r7 : wr.cell? ⟨b, o + k * 11 + 7, none⟩ = some (.int .u64 (M k).pn) := h1 7 _ rfl
        have r8 : wr.cell? ⟨b, o + k * 11 + 8, none⟩ = some (.string (M k).pv) := h1 8 _ rfl
        have r9 : wr.cell? ⟨b, o + k * 11 + 9, none⟩ = some (.int .u64 (M k).qr) := h1 9 _ rfl
        have r10 : wr.cell? ⟨b, o + k * 11 + 10, none⟩ = some (.int .u64 (M k).qn) := h1 10 _ rfl
        have t0 : (wr.cell? ⟨w.heap.size, k * 11, none⟩).isSome = true := (h2 0 (by decide)).1
        have f0 : wr.frozen? ⟨w.heap.size, k * 11, none⟩ = false := (h2 0 (by decide)).2
        obtain ⟨u0', e0⟩ := Option.isSome_iff_exists.1 t0
        have t1 : (wr.cell? ⟨w.heap.size, k * 11 + 1, none⟩).isSome = true := (h2 1 (by decide)).1
        have f1 : wr.frozen? ⟨w.heap.size, k * 11 + 1, none⟩ = false := (h2 1 (by decide)).2
        obtain ⟨u1', e1⟩ := Option.isSome_iff_exists.1 t1
        have t2 : (wr.cell? ⟨w.heap.size, k * 11 + 2, none⟩).isSome = true := (h2 2 (by decide)).1
        have f2 : wr.frozen? ⟨w.heap.size, k * 11 + 2, none⟩ = false := (h2 2 (by decide)).2
        obtain ⟨u2', e2⟩ := Option.isSome_iff_exists.1 t2
        have t3 : (wr.cell? ⟨w.heap.size, k * 11 + 3, none⟩).isSome = true := (h2 3 (by decide)).1
        have f3 : wr.frozen? ⟨w.heap.size, k * 11 + 3, none⟩ = false := (h2 3 (by decide)).2
        obtain ⟨u3', e3⟩ := Option.isSome_iff_exists.1 t3
        have t4 : (wr.cell? ⟨w.heap.size, k * 11 + 4, none⟩).isSome = true := (h2 4 (by decide)).1
        have f4 : wr.frozen? ⟨w.heap.size, k * 11 + 4, none⟩ = false := (h2 4 (by decide)).2
        obtain ⟨u4', e4⟩ := Option.isSome_iff_exists.1 t4
        have t5 : (wr.cell? ⟨w.heap.size, k * 11 + 5, none⟩).isSome = true := (h2 5 (by decide)).1
        have f5 : wr.frozen? ⟨w.heap.size, k * 11 + 5, none⟩ = false := (h2 5 (by decide)).2
        obtain ⟨u5', e5⟩ := Option.isSome_iff_exists.1 t5
        have t6 : (wr.cell? ⟨w.heap.size, k * 11 + 6, none⟩).isSome = true := (h2 6 (by decide)).1
        have f6 : wr.frozen? ⟨w.heap.size, k * 11 + 6, none⟩ = false := (h2 6 (by decide)).2
        obtain ⟨u6', e6⟩ := Option.isSome_iff_exists.1 t6
        have t7 : (wr.cell? ⟨w.heap.size, k * 11 + 7, none⟩).isSome = true := (h2 7 (by decide)).1
        have f7 : wr.frozen? ⟨w.heap.size, k * 11 + 7, none⟩ = false := (h2 7 (by decide)).2
        obtain ⟨u7', e7⟩ := Option.isSome_iff_exists.1 t7
        have t8 : (wr.cell? ⟨w.heap.size, k * 11 + 8, none⟩).isSome = true := (h2 8 (by decide)).1
        have f8 : wr.frozen? ⟨w.heap.size, k * 11 + 8, none⟩ = false := (h2 8 (by decide)).2
        obtain ⟨u8', e8⟩ := Option.isSome_iff_exists.1 t8
        have t9 : (wr.cell? ⟨w.heap.size, k * 11 + 9, none⟩).isSome = true := (h2 9 (by decide)).1
        have f9 : wr.frozen? ⟨w.heap.size, k * 11 + 9, none⟩ = false := (h2 9 (by decide)).2
        obtain ⟨u9', e9⟩ := Option.isSome_iff_exists.1 t9
        have t10 : (wr.cell? ⟨w.heap.size, k * 11 + 10, none⟩).isSome = true := (h2 10 (by decide)).1
        have f10 : wr.frozen? ⟨w.heap.size, k * 11 + 10, none⟩ = false := (h2 10 (by decide)).2
        obtain ⟨u10', e10⟩ := Option.isSome_iff_exists.1 t10
        clear h1 h2 t0 t1 t2 t3 t4 t5 t6 t7 t8 t9 t10
        go_wp2
        go_roundg (n - (k + 1))
        case measure => omega
        case rel =>
          refine ⟨k + 1, by omega, rfl, rfl, since_setCells (Nat.le_refl _) (M k).cells (k * 11) _ hs, World.there_setCells HT.out w.heap.size (k * 11) (M k).cells, fun j hj => ?_⟩
          by_cases e : j = k
          · subst e
            exact World.rangeAt_setCells_same wr w.heap.size (j * 11) (M j).cells h2'.out
          · refine World.rangeAt_setCells_apart (HR.out j (by omega)) w.heap.size (k * 11) (M k).cells (.inr (.inl ?_))
            rw [ZM.length_cells]
            omega
      · go_wp2
        go_ret
        refine ⟨⟨_, _, rfl, _, w.heap.size, 0, n, rfl, fun j hj => ⟨rfl, Nat.le_refl _, ?_⟩⟩, hs⟩
        rw [Nat.zero_add]
        exact hr j (by omega)
end Go.Proofs.Qxb6601152a
