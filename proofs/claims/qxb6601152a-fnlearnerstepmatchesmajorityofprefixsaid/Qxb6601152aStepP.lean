import Derived.Test.Qxb6601152aStepB
namespace Go.Proofs.Qxb6601152a
open Go.RowKit Go.Deep

set_option maxHeartbeats 1000000 in
theorem stepP (lb mb lo : Nat) (av : Value) (n : Nat) (X : Nat → Int) (z : ZM) (r0 d0 : Int) (s0 : ByteArray) (w : World) (hn : n ≤ 1048576) (h4 : z.ty = 4) (hl : w.rowIs lb 47 5 (lcell av (.map (some mb)) r0 d0 s0))
    (hA : ∀ w', w.Since lo w' → IntsI w' 0 av n X) (hlo : lo ≤ w.heap.size) (hyes : has n X z.fr = true) (F : Int → Int → Option Value) (m : Nat) (hm : m < maxLen) (hM : MapF w mb m F) (hwf : wfb z.br z.bn) (cs : List Int) (hk : cs.length ≤ 1048575) (g : Nat) (ao : Option Addr) (cap : Nat) (hlg : lo ≤ g) (hG : w.rowIs g 22 1 (fun _ => av)) (hOwn : Own w lo (.slice ao cs.length cap) cs)
    (hF : F z.br z.bn = some (.agg #[.slice (some ⟨g, 0, none⟩) 1 1, .slice ao cs.length cap])) :
    Calls Try.prog 12 #[.pointer (some ⟨lb, 0, none⟩), .agg z.cells.toArray] w (BPost lb mb lo av n X z r0 d0 s0 m F (Value.slice ao cs.length cap) cs w) := by
  have hb : (z.ty != 4) = false := by simpa using h4
  have hnil := nil45
  have hlt := hl.lt
  have c0 : w.cell? ⟨lb, 0, none⟩ = some av := by simpa [lcell] using hl.cell (i := 0) (by omega)
  have c1 : w.cell? ⟨lb, 1, none⟩ = some (.map (some mb)) := by simpa [lcell] using hl.cell (i := 1) (by omega)
  have hAw := hA w (World.Since.refl _ _)
  have HA : Hid (∀ w', w.Since lo w' → IntsI w' 0 av n X) := hA
  have HC : Hid (∀ w', w.Since w.heap.size w' → Calls Try.prog 16 #[av, .int .u64 z.fr] w' fun e w'' => e = .returned (.bool (has n X z.fr)) ∧ w'' = w') := fun w' hs => contains av n X z.fr w' hn (hAw.since hs)
  rw [hyes] at HC
  have HL : Hid (∀ w', w'.heap[mb]? = w.heap[mb]? → (Instr.lookup 45 (.map (some mb)) (.agg #[.int .u64 z.br, .int .u64 z.bn]) true).run Try.prog w' = .ok (.tuple #[.agg #[.slice (some ⟨g, 0, none⟩) 1 1, .slice ao cs.length cap], .bool true]) w') :=
    fun w' e => by have := (hM.kept e).look hwf; rw [hF] at this; exact this
  clear hA
  obtain ⟨aa, ab, a0, acap, rfl, _⟩ := hAw
  unfold ZM.cells
  go_enter Try.func12, Try.ntmps12
  go_wp2_with fail
  go_quiet (exact Calls.quiet_of_same (HC.out _ (since_box _ _ _)))
  go_wp2_with fail
  have hS := since_box w (.cells #[.int .u8 4, .int .u64 z.fr, .int .u64 z.tt, .int .u64 z.br, .int .u64 z.bn, .string z.vl, .int .u64 z.pr, .int .u64 z.pn, .string z.pv, .int .u64 z.qr, .int .u64 z.qn] 42) nq
  have hR : ((w.alloc (.cells #[.int .u8 4, .int .u64 z.fr, .int .u64 z.tt, .int .u64 z.br, .int .u64 z.bn, .string z.vl, .int .u64 z.pr, .int .u64 z.pn, .string z.pv, .int .u64 z.qr, .int .u64 z.qn] 42)).drewN nq).heap[w.heap.size]? = some (.cells #[.int .u8 4, .int .u64 z.fr, .int .u64 z.tt, .int .u64 z.br, .int .u64 z.bn, .string z.vl, .int .u64 z.pr, .int .u64 z.pn, .string z.pv, .int .u64 z.qr, .int .u64 z.qn] 42 (0, 0)) := heap_alloc_last w _
  generalize hW1 : World.drewN (w.alloc (.cells #[.int .u8 4, .int .u64 z.fr, .int .u64 z.tt, .int .u64 z.br, .int .u64 z.bn, .string z.vl, .int .u64 z.pr, .int .u64 z.pn, .string z.pv, .int .u64 z.qr, .int .u64 z.qn] 42)) nq = W1 at *
  have hsz : w.heap.size < W1.heap.size := (Array.getElem?_eq_some_iff.1 hR).1
  have m1 : W1.cell? ⟨w.heap.size, 1, none⟩ = some (.int .u64 z.fr) := by simp [World.cell?, hR]
  have m3 : W1.cell? ⟨w.heap.size, 3, none⟩ = some (.int .u64 z.br) := by simp [World.cell?, hR]
  have m4 : W1.cell? ⟨w.heap.size, 4, none⟩ = some (.int .u64 z.bn) := by simp [World.cell?, hR]
  have m5 : W1.cell? ⟨w.heap.size, 5, none⟩ = some (.string z.vl) := by simp [World.cell?, hR]
  have l0 : W1.cell? ⟨lb, 0, none⟩ = some (.slice aa n acap) := by rw [hS.cell (a := ⟨lb, 0, none⟩) hlt]; exact c0
  have l1 : W1.cell? ⟨lb, 1, none⟩ = some (.map (some mb)) := by rw [hS.cell (a := ⟨lb, 1, none⟩) hlt]; exact c1
  have hlk := HL.out (W1.drew) (hS.block _ hM.lt)
  have hlk2 := HL.out ((W1.alloc (.cells #[.slice none 0 0, .slice none 0 0] 50)).drew) ((blk_alloc_lt W1 _ _ (Nat.lt_of_lt_of_le hM.lt hS.size)).trans (hS.block _ hM.lt))
  have hlt1 : lb < W1.heap.size := by omega
  have HR := show Hid _ from hR
  clear HL HC hR hW1 c0 c1
  go_region
  all_goals
    clear hlk hlk2
    go_wp2_with fail
    have hS2 : w.Since w.heap.size (W1.alloc (.cells #[.slice (some ⟨g, 0, none⟩) 1 1, .slice ao cs.length cap] 50)).drew := (hS.alloc (by omega) _).drew
    have hQr : (W1.alloc (.cells #[.slice (some ⟨g, 0, none⟩) 1 1, .slice ao cs.length cap] 50)).drew.rowIs W1.heap.size 50 2 (fun i => if i = 1 then (Value.slice ao cs.length cap) else .slice (some ⟨g, 0, none⟩) 1 1) := ⟨_, heap_alloc_last W1 _, rfl, fun i hi => by match i, hi with | 0, _ => rfl | 1, _ => rfl⟩
    have hR2 : (W1.alloc (.cells #[.slice (some ⟨g, 0, none⟩) 1 1, .slice ao cs.length cap] 50)).drew.heap[w.heap.size]? = some (.cells #[.int .u8 4, .int .u64 z.fr, .int .u64 z.tt, .int .u64 z.br, .int .u64 z.bn, .string z.vl, .int .u64 z.pr, .int .u64 z.pn, .string z.pv, .int .u64 z.qr, .int .u64 z.qn] 42 (0, 0)) := (blk_alloc_lt W1 _ _ hsz).trans HR.out
    generalize hW2 : World.drew (W1.alloc (.cells #[.slice (some ⟨g, 0, none⟩) 1 1, .slice ao cs.length cap] 50)) = W2 at *
    clear hW2
    have hOwn2 : Own W2 lo (.slice ao cs.length cap) cs := hOwn.kept (fun x hx => hS2.block _ (hOwn.lt hx).2.1)
    have hG2 : W2.rowIs g 22 1 (fun _ => .slice aa n acap) := rowIs_since hG hS2
    have hloG := hlg
    obtain ⟨xq, hQ⟩ := rowIs_obj hQr
    have hL2 := rowIs_since hl hS2
    have hM2 : MapF W2 mb m F := hM.kept (hS2.block _ hM.lt)
    have hq1 : W2.cell? ⟨W1.heap.size, 1, none⟩ = some ((Value.slice ao cs.length cap)) := by simpa using hQr.cell (i := 1) (by omega)
    have hq0 : W2.cell? ⟨W1.heap.size, 0, none⟩ = some (.slice (some ⟨g, 0, none⟩) 1 1) := by simpa using hQr.cell (i := 0) (by omega)
    have hqf : W2.frozen? ⟨W1.heap.size, 1, none⟩ = false := hQr.frozen 1
    have hne : ((Value.slice ao cs.length cap)).ownBlock ≠ some W1.heap.size := by
      intro e
      obtain ⟨_, _, cur, hcur⟩ := hOwn2.lt e
      rw [hQ] at hcur
      simp at hcur
    clear hQr
    have hlo2 : lo ≤ W2.heap.size := Nat.le_trans hlo hS2.size
    clear m1 m3 m4 m5 l0 l1 hS HR
    refine (count lo W1.heap.size _ cs z.fr W2 hk hlo2 hq1 hqf hOwn2 hne).mono ?_
    rintro e W3 (⟨hin, rfl, rfl⟩ | ⟨hin, rfl, hk3, c', hq3, hOwn3, hloc, hq0'⟩)
    · go_wp2
      go_ret
      exact .inl ⟨hin, rfl, hS2⟩
    · have hq03 := hq0' _ hq0
      clear hq0'
      obtain ⟨ao3, cap3, hc3⟩ := hOwn3.shape
      rw [show (cs ++ [z.fr]).length = cs.length + 1 by simp] at hc3
      have hR3 := kp_obj hk3 hOwn2 hQ hR2 (by simp) (by simp)
      obtain ⟨xl, hxl⟩ := rowIs_obj hL2
      have hL3 := hL2.of_block ((kp_obj hk3 hOwn2 hQ hxl (cells_ne (by decide) _) (cells_ne (by decide) _)).trans hxl.symm)
      obtain ⟨xg, hxg⟩ := rowIs_obj hG2
      have hG3 := hG2.of_block ((kp_obj hk3 hOwn2 hQ hxg (cells_ne (by decide) _) (cells_ne (by decide) _)).trans hxg.symm)
      obtain ⟨em, cm, hem⟩ := hM2.isMap
      have hM3 : MapF W3 mb m F := hM2.kept ((kp_obj hk3 hOwn2 hQ hem (by simp) (by simp)).trans hem.symm)
      have hkw : Kp w (fun b => some b = ((Value.slice ao cs.length cap)).ownBlock) W3 :=
        ⟨(since_le hS2 (Nat.zero_le _)).trans hk3.since, fun b hb hnb => by
          rw [hk3.block b (Nat.lt_of_lt_of_le hb hS2.size) (by rintro (e | e); (· omega); exact hnb e), hS2.block b hb]⟩
      have hA3 : IntsI W3 0 (.slice aa n acap) n X := HA.out W3 (hkw.toSince hlo (fun b e => (hOwn2.lt e.symm).1))
      have hloc' : c'.ownBlock = ((Value.slice ao cs.length cap)).ownBlock ∨ ∃ x, c'.ownBlock = some x ∧ w.heap.size ≤ x := hloc.imp id (fun ⟨x, h1, h2⟩ => ⟨x, h1, Nat.le_trans hS2.size h2⟩)
      have HRe := reached g W1.heap.size c' (.slice aa n acap) (cs ++ [z.fr]).length (fun j => (cs ++ [z.fr]).getD j 0) n X W3 (by simp <;> omega) hn (hG3.cell (by omega)) hq03 hq3 ((hOwn3.ints).low (Nat.zero_le _)) hA3
      subst hc3
      clear hk3 hOwn2 hQ hR2 hL2 hxl hG2 hxg hM2 hem hq1 hq0 hqf hne hlo2 HA hA3 hloc hS2
      go_wp2_with fail
      refine HRe.mono ?_
      rintro e W4 ⟨rfl, hs4⟩
      clear HRe
      have hL4 := rowIs_since hL3 hs4
      have hG4 := rowIs_since hG3 hs4
      have hM4 : MapF W4 mb m F := hM3.kept (hs4.block _ hM3.lt)
      have hOwn4 : Own W4 lo _ _ := hOwn3.kept (fun x hx => hs4.block _ (hOwn3.lt hx).2.1)
      have hkw4 : Kp w (fun b => some b = ((Value.slice ao cs.length cap)).ownBlock) W4 := hkw.trans (Kp.of_since hs4)
      have hR4 : W4.heap[w.heap.size]? = _ := (hs4.block _ (Array.getElem?_eq_some_iff.1 hR3).1).trans hR3
      have m3 : W4.cell? ⟨w.heap.size, 3, none⟩ = some (.int .u64 z.br) := by simp [World.cell?, hR4]
      have m4 : W4.cell? ⟨w.heap.size, 4, none⟩ = some (.int .u64 z.bn) := by simp [World.cell?, hR4]
      have m5 : W4.cell? ⟨w.heap.size, 5, none⟩ = some (.string z.vl) := by simp [World.cell?, hR4]
      have q0 : W4.cell? ⟨W1.heap.size, 0, none⟩ = some (.slice (some ⟨g, 0, none⟩) 1 1) := by rw [hs4.cell (a := ⟨W1.heap.size, 0, none⟩) (World.block_lt_of_cell? _ _ hq03)]; exact hq03
      have q1 : W4.cell? ⟨W1.heap.size, 1, none⟩ = some (.slice ao3 (cs.length + 1) cap3) := by rw [hs4.cell (a := ⟨W1.heap.size, 1, none⟩) (World.block_lt_of_cell? _ _ hq3)]; exact hq3
      have l1 : W4.cell? ⟨lb, 1, none⟩ = some (.map (some mb)) := by simpa [lcell] using hL4.cell (i := 1) (by omega)
      have HL3 : Hid (W4.rowIs lb 47 5 (lcell (.slice aa n acap) (.map (some mb)) r0 d0 s0)) := hL4
      clear hL3 hG3 hM3 hOwn3 hkw hR4 hR3 hq03 hq3 hs4 hl
      by_cases hre : n < 2 * cnt n (fun i => has (cs ++ [z.fr]).length (fun j => (cs ++ [z.fr]).getD j 0) (X i))
      · rw [decide_eq_true hre]
        have l2 : W4.cell? ⟨lb, 2, none⟩ = some (.int .u64 r0) := by simpa [lcell] using hL4.cell (i := 2) (by omega)
        have l3 : W4.cell? ⟨lb, 3, none⟩ = some (.int .u64 d0) := by simpa [lcell] using hL4.cell (i := 3) (by omega)
        have l4 : W4.cell? ⟨lb, 4, none⟩ = some (.string s0) := by simpa [lcell] using hL4.cell (i := 4) (by omega)
        have f1 := hL4.frozen 1
        have f2 := hL4.frozen 2
        have f3 := hL4.frozen 3
        have f4 := hL4.frozen 4
        clear hL4
        go_wp2
        go_ret
        refine .inr (.inl ⟨hin, hre, rfl, ?_, ?_⟩)
        · exact ((((hkw4.mono (fun b _ h => .inr h)).setCell (fun _ => .inl rfl) _).setCell (fun _ => .inl rfl) _).setCell (fun _ => .inl rfl) _).setCell (fun _ => .inl rfl) _
        · refine ((((HL3.out.set 2 _).set 3 _).set 4 _).set 1 _).congr (fun i hi => ?_)
          unfold lcell
          match i, hi with
          | 0, _ => simp
          | 1, _ => simp
          | 2, _ => simp
          | 3, _ => simp
          | 4, _ => simp
      · rw [decide_eq_false hre]
        obtain ⟨W5, hup, hM5, hK5⟩ := MapF.store (w := W4.drew) hM4 hm hwf (.agg #[.slice (some ⟨g, 0, none⟩) 1 1, .slice ao3 (cs.length + 1) cap3])
        have HK : Hid (Kp W4 (fun b => b = mb) W5) := ⟨(World.Since.refl _ _).drew.trans hK5.since, hK5.block⟩
        have HM := show Hid _ from hM5
        clear hL4 hK5 hM5
        go_wp2_with fail
        go_region
        all_goals
          go_wp2
          go_ret
          have hK5 := HK.out
          refine .inr (.inr ⟨hin, hre, rfl, ⟨hkw4.since.trans hK5.since, fun b hb hnb => ?_⟩, ?_, g, _, HM.out, ?_, hloG, ?_, hloc'⟩)
          · rw [hK5.block b (Nat.lt_of_lt_of_le hb hkw4.since.size) (fun e => hnb (.inl e))]
            exact hkw4.block b hb (fun e => hnb (.inr e))
          · obtain ⟨xl, hxl⟩ := rowIs_obj HL3.out
            obtain ⟨em, cm, hem⟩ := hM4.isMap
            refine HL3.out.of_block (hK5.block lb HL3.out.lt (fun e => ?_))
            subst e
            rw [hxl] at hem
            simp at hem
          · refine hOwn4.kept (fun x hx => hK5.block x (hOwn4.lt hx).2.1 (fun e => ?_))
            obtain ⟨_, _, cur, hcur⟩ := hOwn4.lt hx
            obtain ⟨em, cm, hem⟩ := hM4.isMap
            subst e
            rw [hcur] at hem
            simp at hem
          · obtain ⟨xl, hxl⟩ := rowIs_obj hG4
            obtain ⟨em, cm, hem⟩ := hM4.isMap
            refine hG4.of_block (hK5.block _ hG4.lt (fun e => ?_))
            rw [e] at hxl
            rw [hxl] at hem
            simp at hem
end Go.Proofs.Qxb6601152a
