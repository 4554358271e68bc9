import Derived.Test.Qxb6600028aBell
import Derived.BigQuiet
namespace Go.Proofs.Qxb6600028a
open Go.RowKit Go.Deep

/-- The memory of the rounds. -/
structure BM (wd wr : World) (n : Nat) (B : Nat → Int) : Prop where
  since : wd.Since wd.heap.size wr
  ds : wr.rowIs wd.heap.size 3 n (fun j => .int .i64 (B j))
theorem BM.set {wd wr : World} {n : Nat} {B : Nat → Int} (h : BM wd wr n B) (x : Nat) (c : Int) : BM wd (wr.setCell ⟨wd.heap.size, x, none⟩ (.int .i64 c)) n (upd B x c) :=
  ⟨h.since.setCell (Nat.le_refl _) _, (h.ds.set x _).congr (fun j _ => upd_congr (Value.int .i64) B x c j)⟩
theorem BM.drewN {wd wr : World} {n : Nat} {B : Nat → Int} (h : BM wd wr n B) (d : Nat) : BM wd (wr.drewN d) n B := ⟨since_drewN h.since d, h.ds⟩

/-- Behind the rounds. -/
def XL (f : Nat → Value) (wd : World) (g : Gr) (n s len : Nat) (D : Nat → Int) (a' : Act) (w' : World) : Prop :=
  a'.tmps.size = 273 ∧ a'.defers = [] ∧ (slot a' 1 = f 1 ∧ slot a' 6 = f 6 ∧ slot a' 9 = f 9 ∧ slot a' 10 = f 10 ∧ slot a' 13 = f 13) ∧ ∃ b B, b ≤ 33554432 ∧ BF g s D len 0 b B ∧ BM wd w' n B

set_option maxRecDepth 100000 in
set_option maxHeartbeats 2000000 in
theorem bell_loop (wd : World) (sb s0 sc : Nat) (g : Gr) (n s len : Nat) (D : Nat → Int) (hgn : g.n = n) (ok : GOk g) (hn : n ≤ 1024) (hsum : sumTo g.L n ≤ 16384) (hl : len ≤ n) (hD : ToS g s D)
    (R : Nat → Option Addr) (C rb ro : Nat → Nat) (hR : RowsA wd sb s0 g n R C rb ro) (f : Nat → Value) (w0 : World) (h1 : f 1 = .slice (some ⟨sb, s0, none⟩) n sc) (h8 : f 8 = .int .i64 n) (h9 : f 9 = .int .i64 len)
    (h13 : f 13 = .slice (some ⟨wd.heap.size, 0, none⟩) n n) (h15 : f 15 = .int .i64 0) (hM0 : BM wd w0 n (upd (fun _ => -1) s 0)) :
    Code.wp Try.prog (Code.loop ((loops (Try.f8.body.getD .skip))[2]?.getD .skip)) (QX 4 (XL f wd g n s len D)) (mkA 273 f) w0 := by
  conv => arg 2; arg 1; whnf
  have HG : Hid (g.n = n) := hgn
  have HOK : Hid (GOk g) := ok
  have HD : Hid (ToS g s D) := hD
  have HR : Hid (RowsA wd sb s0 g n R C rb ro) := hR
  obtain ⟨S, hS⟩ : ∃ S, sumTo g.L n = S := ⟨_, rfl⟩
  have HSS : Hid (sumTo g.L n = S) := hS
  rw [hS] at hsum
  have HE : Hid (∀ a' : Act, ∀ w' b B, a'.tmps.size = 273 → a'.defers = [] → (slot a' 1 = .slice (some ⟨sb, s0, none⟩) n sc ∧ slot a' 6 = f 6 ∧ slot a' 9 = .int .i64 len ∧ slot a' 10 = f 10 ∧ slot a' 13 = .slice (some ⟨wd.heap.size, 0, none⟩) n n) → b ≤ 33554432 → BF g s D len 0 b B → BM wd w' n B → XL f wd g n s len D a' w') := by
    intro a' w' b B e1 e2 ⟨q1, q2, q3, q4, q5⟩ e4 e5 e6
    exact ⟨e1, e2, ⟨by rw [q1, h1], q2, by rw [q3, h9], q4, by rw [q5, h13]⟩, b, B, e4, e5, e6⟩
  generalize XL f wd g n s len D = XX at *
  rw [mkA_273, h1, h8, h9, h13, h15]
  clear h1 h8 h9 h13 h15 hgn ok hD hR hS
  dsimp only
  go_loopg [15] len (fun gk ir wr => ∃ (r : Nat) (B : Nat → Int), r ≤ len ∧ gk = len - r ∧ ir = .int .i64 r ∧ Hid (BF g s D r 0 (r * S) B) ∧ BM wd wr n B)
  case atStart => exact ⟨0, _, Nat.zero_le _, rfl, rfl, by rw [Nat.zero_mul]; exact BF.start HD.out, hM0⟩
  case round =>
    clear hM0
    obtain ⟨r, B, hr, rfl, rfl, hB, hM⟩ := hrel
    have hrS : r * S ≤ 16777216 := Nat.mul_le_mul (show r ≤ 1024 by omega) hsum
    have HRS : Hid (r * S + S = (r + 1) * S) := (Nat.succ_mul r S).symm
    generalize hb0 : r * S = b0 at *
    clear hb0
    by_cases hlt : r < len
    · have HB0 : Hid (BF g s D r 0 b0 B ∧ BM wd wr n B) := ⟨hB.out, hM⟩
      clear hB hM
      go_wp2
      go_loopg [16] n (fun gk iu wr => ∃ (u : Nat) (B : Nat → Int), u ≤ n ∧ gk = n - u ∧ iu = .int .i64 u ∧ Hid (BF g s D r u (b0 + sumTo g.L u) B) ∧ BM wd wr n B)
      case atStart => exact ⟨0, B, Nat.zero_le _, rfl, rfl, HB0.out.1, HB0.out.2⟩
      case round =>
        clear HB0
        obtain ⟨u, B, hu, rfl, rfl, hB, hM⟩ := hrel
        by_cases hlu : u < n
        · obtain ⟨hrow, hents⟩ := HR.out u hlu
          have hrow' : wr.cell? ⟨sb, s0 + u, none⟩ = some (.slice (R u) (g.L u) (C u)) := by rw [hM.since.cell (a := ⟨sb, s0 + u, none⟩) (World.block_lt_of_cell? _ _ hrow)]; exact hrow
          have hsl : sumTo g.L u + g.L u ≤ 16384 := by
            have : sumTo g.L (u + 1) ≤ sumTo g.L n := sumTo_le hlu
            rw [HSS.out] at this
            simp only [sumTo] at this
            omega
          have HSU : Hid (sumTo g.L (u + 1) = sumTo g.L u + g.L u) := rfl
          generalize hsu : sumTo g.L u = su at *
          clear hrow hsu
          rcases Nat.eq_zero_or_pos (g.L u) with hz | hp
          · rw [hz] at hrow'
            have HZ : Hid (g.L u = 0) := hz
            have HB : Hid (BF g s D r u (b0 + su) B ∧ BM wd wr n B) := ⟨hB.out, hM⟩
            clear hents hM hB hz
            go_wp2
            refine wp_loop_rounds 1 ?_
            rw [rounds_succ]
            go_wp2
            go_roundg (n - (u + 1))
            case measure => omega
            case rel =>
              refine ⟨u + 1, B, by omega, rfl, by go_num, ?_, HB.out.2⟩
              have h := HB.out.1.enter.row
              rw [HSU.out, HZ.out]
              exact (BI.done (⟨HB.out.1, fun i hi => by rw [HZ.out] at hi; omega⟩) HOK.out HD.out (by rw [HG.out]; exact hlu))
          · rw [(hents 0 hp).1] at hrow'
            have HE2 : Hid (∀ j, j < g.L u → wd.cell? ⟨rb u, ro u + j, none⟩ = some (.int .i64 (g.Z u j))) := fun j hj => (hents j hj).2
            have HB : Hid (BF g s D r u (b0 + su) B ∧ BM wd wr n B) := ⟨hB.out, hM⟩
            have hLu : g.L u ≤ 16384 := by omega
            clear hents hM hB
            go_wp2
            clear hrow'
            go_loopg [18, 19] (g.L u) (fun gk ij iv wr => ∃ (j : Nat) (B : Nat → Int), j ≤ g.L u ∧ gk = g.L u - j ∧ ij = .int .i64 j ∧ Hid (BI g s D r u j (b0 + su + j) B) ∧ BM wd wr n B)
            case atStart => exact ⟨0, B, Nat.zero_le _, rfl, rfl, HB.out.1.enter, HB.out.2⟩
            case round =>
              clear HB
              obtain ⟨j, B, hj, rfl, rfl, hB, hM⟩ := hrel
              by_cases hlj : j < g.L u
              · obtain ⟨x, hzx⟩ : ∃ x, g.Z u j = x := ⟨_, rfl⟩
                have hun : u < g.n := by rw [HG.out]; exact hlu
                have hxn : x < n := by have := (HOK.out.rng u hun j hlj).1; rw [HG.out, hzx] at this; exact this
                have h0 := HE2.out j hlj
                rw [hzx] at h0
                have d0 : wr.cell? ⟨rb u, ro u + j, none⟩ = some (.int .i64 x) := by rw [hM.since.cell (a := ⟨rb u, ro u + j, none⟩) (World.block_lt_of_cell? _ _ h0)]; exact h0
                have d1 : wr.cell? ⟨wd.heap.size, x, none⟩ = some (.int .i64 (B x)) := hM.ds.cell hxn
                have d2 : wr.cell? ⟨wd.heap.size, u, none⟩ = some (.int .i64 (B u)) := hM.ds.cell hlu
                have d3 : wr.frozen? ⟨wd.heap.size, u, none⟩ = false := hM.ds.frozen u
                have HS1 : Hid (0 ≤ B x → (B u < 0 ∨ B x + 1 < B u) → BI g s D r u (j + 1) (b0 + su + (j + 1)) (upd B u (B x + 1))) := fun q1 q2 => by
                  have := hB.out.step HOK.out HD.out hun hlj (by rw [hzx]; exact q1) (by rw [hzx]; exact q2)
                  rw [hzx] at this
                  exact this
                have HS2 : Hid (¬ (0 ≤ B x ∧ (B u < 0 ∨ B x + 1 < B u)) → BI g s D r u (j + 1) (b0 + su + (j + 1)) B) := fun q1 => hB.out.skip HOK.out hun hlj (by rw [hzx]; exact q1)
                have hbx : B x ≤ 16809985 := by have := hB.out.bf.bd x (by rw [HG.out]; exact hxn); omega
                have hbu : B u ≤ 16809985 := by have := hB.out.bf.bd u hun; omega
                have HM : Hid (BM wd wr n B) := hM
                have hi1 : (x : Int) < (n : Int) := by omega
                have hi2 : (u : Int) < (n : Int) := by omega
                have hlj' : (j : Int) < (g.L u : Int) := by omega
                clear h0 hzx hM hB
                generalize hBx : B x = bx at *
                generalize hBu : B u = bu at *
                clear hBx hBu
                by_cases k0 : 0 ≤ bx
                · have k0' : decide (0 ≤ bx) = true := by simp; exact k0
                  by_cases k1 : bu < 0
                  · have k1' : decide (bu < 0) = true := by simp; exact k1
                    have HN : Hid (BI g s D r u (j + 1) (b0 + su + (j + 1)) (upd B u (bx + 1))) := HS1.out k0 (Or.inl k1)
                    clear HS1 HS2
                    go_wp2_with (go_quiet (fail))
                    go_roundg (g.L u - (j + 1))
                    case measure => omega
                    case rel => exact ⟨j + 1, _, by omega, rfl, by go_num, HN.out, (HM.out.drewN nq).set u _⟩
                  · have k1' : decide (bu < 0) = false := by simp; omega
                    by_cases k2 : bx + 1 < bu
                    · have k2' : decide (bx + 1 < bu) = true := by simp; exact k2
                      have HN : Hid (BI g s D r u (j + 1) (b0 + su + (j + 1)) (upd B u (bx + 1))) := HS1.out k0 (Or.inr k2)
                      clear HS1 HS2
                      go_wp2_with (go_quiet (fail))
                      go_roundg (g.L u - (j + 1))
                      case measure => omega
                      case rel => exact ⟨j + 1, _, by omega, rfl, by go_num, HN.out, (HM.out.drewN nq).set u _⟩
                    · have k2' : decide (bx + 1 < bu) = false := by simp; omega
                      have HN : Hid (BI g s D r u (j + 1) (b0 + su + (j + 1)) B) := HS2.out (by omega)
                      clear HS1 HS2
                      go_wp2_with (go_quiet (fail))
                      go_roundg (g.L u - (j + 1))
                      case measure => omega
                      case rel => exact ⟨j + 1, _, by omega, rfl, by go_num, HN.out, HM.out.drewN nq⟩
                · have k0' : decide (0 ≤ bx) = false := by simp; omega
                  have HN : Hid (BI g s D r u (j + 1) (b0 + su + (j + 1)) B) := HS2.out (by omega)
                  clear HS1 HS2
                  go_wp2_with (go_quiet (fail))
                  go_roundg (g.L u - (j + 1))
                  case measure => omega
                  case rel => exact ⟨j + 1, _, by omega, rfl, by go_num, HN.out, HM.out.drewN nq⟩
              · have hjL : j = g.L u := by omega
                have hb := hB.out
                rw [hjL] at hb
                have HN : Hid (BF g s D r (u + 1) (b0 + su + g.L u) B ∧ BM wd wr n B) := ⟨hb.done HOK.out HD.out (by rw [HG.out]; exact hlu), hM⟩
                clear hjL hb hB hM
                go_wp2
                go_roundg (n - (u + 1))
                case measure => omega
                case rel => exact ⟨u + 1, B, by omega, rfl, by go_num, by rw [HSU.out, ← Nat.add_assoc]; exact HN.out.1, HN.out.2⟩
        · obtain rfl : u = n := by omega
          have HN : Hid (BF g s D (r + 1) 0 ((r + 1) * S) B ∧ BM wd wr u B) := by
            refine ⟨?_, hM⟩
            have h := hB.out
            rw [HSS.out, HRS.out] at h
            have e := HG.out
            subst e
            exact h.next
          clear hB hM
          go_wp2
          go_roundg (len - (r + 1))
          case measure => omega
          case rel => exact ⟨r + 1, B, by omega, rfl, by go_num, HN.out.1, HN.out.2⟩
    · obtain rfl : r = len := by omega
      go_wp2
      refine ⟨rfl, HE.out _ _ b0 B rfl rfl ⟨rfl, rfl, rfl, rfl, rfl⟩ (by omega) hB.out hM⟩
end Go.Proofs.Qxb6600028a
