import Derived.Test.Qxb6601152aStep
import Derived.Test.Qxb6601152aBytes6
import Derived.Deep.RegionWith
namespace Go.Proofs.Qxb6601152a
open Go.RowKit Go.Deep

/-- The cells of 'want'. -/
def wcell (r d : Int) (s : ByteArray) (i : Nat) : Value := if i = 0 then .int .u64 r else if i = 1 then .int .u64 d else .string s

theorem Try.cells34 : Try.prog.cellsOf 34 = 3 := by kernel_rfl
theorem Try.cells9 : Try.prog.cellsOf 9 = 1 := by kernel_rfl
theorem Try.keyType34 : Try.prog.keyType 34 = true := by kernel_rfl
theorem Try.wide34 : (match Try.prog.underlying 34 with | some (.array _ _) | some (.struct _) => true | _ => false) = true := by rw [Try.underlying34]

theorem lits9 {s : ByteArray} (h : s.size ≤ maxLen) (m : Nat) : Try.prog.keyLits (m + 1) 9 [.string s] = some [.string s.data.toList] := by
  unfold Program.keyLits
  rw [Try.underlying9]
  simp [h]

theorem lits34 {r d : Int} {s : ByteArray} (h : wfb r d) (hs : s.size ≤ maxLen) (m : Nat) : Try.prog.keyLits (m + 3) 34 [.int .u64 r, .int .u64 d, .string s] = some [.int .u64 r, .int .u64 d, .string s.data.toList] := by
  unfold Program.keyLits
  rw [Try.underlying34]
  simp [Try.cells34, Try.cells32, Try.cells9, lits32 h, lits9 hs]

theorem neq34 {r d : Int} {s : ByteArray} (h : wfb r d) (hs : s.size ≤ maxLen) (w : World) : (binOp .neq 34 (.agg #[.int .u64 r, .int .u64 d, .string s]) (.agg #[.int .u64 r, .int .u64 d, .string s])).run Try.prog w = .ok (.bool false) w := by
  have hk : ∃ l, keyOf Try.prog 34 (.agg #[.int .u64 r, .int .u64 d, .string s]) = some l := by
    unfold keyOf
    rw [Try.underlying34]
    have hf : (Value.agg #[.int .u64 r, .int .u64 d, .string s]).formed Try.prog 34 = true := by simp [Value.formed, Try.underlying34, Try.cells34]
    have hz : Try.prog.types.size + 1 = 79 + 3 := by rw [Try.typesSize]
    simp only [Try.keyType34, hf, Bool.and_self, if_true, hz]
    rw [show (Value.agg #[.int .u64 r, .int .u64 d, .string s]).cells.toList = [.int .u64 r, .int .u64 d, .string s] from rfl, lits34 h hs 79]
    exact ⟨_, rfl⟩
  obtain ⟨l, hl⟩ := hk
  obtain ⟨q, hq, hiff⟩ := run_equal_deep w (m := 3) (by omega) (by kernel_rfl) Try.wide34 hl hl
  have : q = true := hiff.2 rfl
  subst this
  simp [binOp, go_sem, hq]

theorem chosenAt (lb : Nat) (r d : Int) (s : ByteArray) (w : World) (c2 : w.cell? ⟨lb, 2, none⟩ = some (.int .u64 r)) (c3 : w.cell? ⟨lb, 3, none⟩ = some (.int .u64 d)) (c4 : w.cell? ⟨lb, 4, none⟩ = some (.string s)) :
    Calls Try.prog 14 #[.pointer (some ⟨lb, 0, none⟩)] w fun e w' => e = .returned (.agg #[.int .u64 r, .int .u64 d, .string s]) ∧ w' = w.alloc (.cells #[.int .u64 r, .int .u64 d, .string s] 34) := by
  have hlt := World.block_lt_of_cell? _ _ c2
  go_enter Try.func14, Try.ntmps14
  go_wp2
  go_returns
  exact ⟨rfl, rfl⟩

set_option maxHeartbeats 4000000 in
theorem law (n m : Nat) (X : Nat → Int) (M : Nat → ZM) (av mv : Value) (w : World) (hn : n ≤ 9223372036854775807) (hm : m ≤ 9223372036854775807)
    (hL : ∀ u, u < m → (M u).vl.size ≤ 9223372036854775807 ∧ (M u).pv.size ≤ 9223372036854775807) (hwf : ∀ u, u < m → wfb (M u).br (M u).bn)
    (hN : IntsI w 0 av n X) (hS : MsgsI w 0 mv m M) :
    Calls Try.prog 3 #[av, mv] w fun e w' => e = .returned (.bool true) ∧ w.Since w.heap.size w' := by
  have h5 := zzB5 n m X M av mv w hn hm hL hN hS
  have H6 : Hid (n ≤ 1024 → m ≤ 4096 → Calls Try.prog 6 #[av, mv] w fun e w' => (∃ T : Nat, e = .returned (.int .i64 T)) ∧ w.Since w.heap.size w') := fun a b => zzB6 n m X M av mv w a b hL hN hS
  have H7 : Hid (n ≤ 1024 → ∀ w', w.Since w.heap.size w' → Calls Try.prog 7 #[av] w' fun e w'' => RetS n (fun ao cap => IntsI w'' w'.heap.size (.slice ao n cap) n X) e ∧ w'.Since w'.heap.size w'') := fun a w' s => zzClone av n X w' (by omega) (hN.since s)
  have H8 : Hid (m ≤ 4096 → ∀ w', w.Since w.heap.size w' → Calls Try.prog 8 #[mv] w' fun e w'' => RetS m (fun ao cap => MsgsI w'' w'.heap.size (.slice ao m cap) m M) e ∧ w'.Since w'.heap.size w'') := fun a w' s => zzCloneMsgs mv m M w' (by omega) (hS.since s)
  obtain ⟨ao, b, o, cap, rfl, _⟩ := hN
  obtain ⟨so', sb, so, sc, rfl, _⟩ := hS
  go_enter Try.func3, Try.ntmps3
  go_wp2_with fail
  refine h5.mono ?_
  rintro e w ⟨⟨b5, rfl⟩, rfl⟩
  clear h5
  cases b5 with
  | false =>
    go_wp2
    go_ret
    exact ⟨rfl, .refl _ _⟩
  | true =>
    by_cases hn1 : 1024 < n
    · go_wp2
      go_ret
      exact ⟨rfl, .refl _ _⟩
    by_cases hm1 : 4096 < m
    · go_wp2
      go_ret
      exact ⟨rfl, .refl _ _⟩
    go_wp2_with fail
    refine (H6.out (by omega) (by omega)).mono ?_
    rintro e w6 ⟨⟨T, rfl⟩, s6⟩
    clear H6
    by_cases hT : 1048576 < T
    · go_wp2
      go_ret
      exact ⟨rfl, s6⟩
    go_wp2_with fail
    refine (H7.out (by omega) w6 s6).mono ?_
    rintro e w7 ⟨⟨ao7, cap7, rfl, i7⟩, s7⟩
    clear H7
    have t7 : w.Since w.heap.size w7 := s6.trans (since_le s7 s6.size)
    go_wp2_with fail
    refine (H8.out (by omega) w7 t7).mono ?_
    rintro e w8 ⟨⟨ao8, cap8, rfl, i8⟩, s8⟩
    clear H8
    have t8 : w.Since w.heap.size w8 := t7.trans (since_le s8 t7.size)
    have j8 : IntsI w8 0 (.slice ao7 n cap7) n X := (i7.since s8).low (Nat.zero_le _)
    have h9 := zzClone (.slice ao7 n cap7) n X w8 (by omega) j8
    go_wp2_with fail
    refine h9.mono ?_
    rintro e w9 ⟨⟨ao9, cap9, rfl, i9⟩, s9⟩
    clear h9
    have t9 : w.Since w.heap.size w9 := t8.trans (since_le s9 t8.size)
    have A1 : IntsI w9 0 (.slice ao7 n cap7) n X := j8.since s9
    have A2 : IntsI w9 0 (.slice ao9 n cap9) n X := i9.low (Nat.zero_le _)
    have A3 : MsgsI w9 0 (.slice ao8 m cap8) m M := (i8.since s9).low (Nat.zero_le _)
    have hL9 := newLearner ao9 n cap9 w9
    clear i7 i8 i9 j8 s6 s7 s8 s9 t7 t8
    go_wp2_with fail
    refine hL9.mono ?_
    rintro e w10 ⟨rfl, hw10⟩
    clear hL9
    have s10 : w9.Since w9.heap.size w10 := by rw [hw10]; exact ((World.Since.refl _ _).alloc (Nat.le_refl _) _).alloc (by simp) _
    have z10 : w10.heap.size = w9.heap.size + 2 := by rw [hw10]; simp
    have LS0 : LS w10 w9.heap.size (.slice ao9 n cap9) n X M 0 false 0 0 (ByteArray.mk #[]) := by rw [hw10]; exact LS.made ao9 n cap9 X M w9
    clear hw10
    have HW : Hid (∀ u, u < m → wfb (M u).br (M u).bn) := hwf
    have HLn : Hid (∀ u, u < m → (M u).vl.size ≤ 9223372036854775807 ∧ (M u).pv.size ≤ 9223372036854775807) := hL
    have HA1 : Hid (∀ w', w9.Since w9.heap.size w' → IntsI w' 0 (.slice ao7 n cap7) n X) := fun w' s => A1.since s
    have HA2 : Hid (∀ w', w9.Since w9.heap.size w' → IntsI w' 0 (.slice ao9 n cap9) n X) := fun w' s => A2.since s
    have HA3 : Hid (∀ w', w9.Since w9.heap.size w' → MsgsI w' 0 (.slice ao8 m cap8) m M) := fun w' s => A3.since s
    clear hwf hL A1 A2 A3
    go_wp2
    go_loopg [6, 8] m (fun g l i wr => ∃ (j : Nat) (L : Bool) (r d : Int) (s : ByteArray), j ≤ m ∧ g = m - j ∧ i = .int .i64 j ∧ l = .bool L ∧ w9.Since w9.heap.size wr ∧ LS wr w9.heap.size (.slice ao9 n cap9) n X M j L r d s ∧
      wr.rowIs (w9.heap.size + 2) 34 3 (wcell r d s) ∧ wfb r d ∧ s.size ≤ maxLen)
    case atStart =>
      rw [← z10]
      refine ⟨0, false, 0, 0, ByteArray.mk #[], Nat.zero_le _, rfl, rfl, rfl, s10.alloc (by omega) _, LS0.since ((World.Since.refl _ _).alloc (Nat.le_refl _) _), ⟨_, heap_alloc_last _ _, rfl, fun i hi => ?_⟩, by constructor <;> decide, by decide⟩
      match i, hi with
      | 0, _ => rfl
      | 1, _ => rfl
      | 2, _ => rfl
    case round =>
      obtain ⟨j, L, r, d, s, hj, rfl, rfl, rfl, hsi, hLS, hWt, hwb, hss⟩ := hrel
      clear LS0 s10
      by_cases hlt : j < m
      · obtain ⟨soj, sbj, oj, cj, ej, hMj⟩ := HA3.out wr hsi
        simp only [Value.slice.injEq, true_and] at ej
        obtain ⟨rfl, rfl⟩ := ej
        obtain ⟨rfl, _, hr⟩ := hMj j hlt
        clear hMj
        have r0 : wr.cell? ⟨sbj, oj + j * 11, none⟩ = some (.int .u8 (M j).ty) := hr 0 _ rfl
        have r1 : wr.cell? ⟨sbj, oj + j * 11 + 1, none⟩ = some (.int .u64 (M j).fr) := hr 1 _ rfl
        have r2 : wr.cell? ⟨sbj, oj + j * 11 + 2, none⟩ = some (.int .u64 (M j).tt) := hr 2 _ rfl
        have r3 : wr.cell? ⟨sbj, oj + j * 11 + 3, none⟩ = some (.int .u64 (M j).br) := hr 3 _ rfl
        have r4 : wr.cell? ⟨sbj, oj + j * 11 + 4, none⟩ = some (.int .u64 (M j).bn) := hr 4 _ rfl
        have r5 : wr.cell? ⟨sbj, oj + j * 11 + 5, none⟩ = some (.string (M j).vl) := hr 5 _ rfl
        have r6 : wr.cell? ⟨sbj, oj + j * 11 + 6, none⟩ = some (.int .u64 (M j).pr) := hr 6 _ rfl
        have r7 : wr.cell? ⟨sbj, oj + j * 11 + 7, none⟩ = some (.int .u64 (M j).pn) := hr 7 _ rfl
        have r8 : wr.cell? ⟨sbj, oj + j * 11 + 8, none⟩ = some (.string (M j).pv) := hr 8 _ rfl
        have r9 : wr.cell? ⟨sbj, oj + j * 11 + 9, none⟩ = some (.int .u64 (M j).qr) := hr 9 _ rfl
        have r10 : wr.cell? ⟨sbj, oj + j * 11 + 10, none⟩ = some (.int .u64 (M j).qn) := hr 10 _ rfl
        clear hr
        have hwfj := HW.out j hlt
        have hlnj := (HLn.out j hlt).1
        have hzw := hWt.lt
        have hzl := hLS.lb
        have hsx : wr.Since wr.heap.size (wr.alloc (.cells #[.int .u8 (M j).ty, .int .u64 (M j).fr, .int .u64 (M j).tt, .int .u64 (M j).br, .int .u64 (M j).bn, .string (M j).vl, .int .u64 (M j).pr, .int .u64 (M j).pn, .string (M j).pv, .int .u64 (M j).qr, .int .u64 (M j).qn] 36)) := (World.Since.refl _ _).alloc (Nat.le_refl _) _
        have hsx9 : w9.Since w9.heap.size (wr.alloc (.cells #[.int .u8 (M j).ty, .int .u64 (M j).fr, .int .u64 (M j).tt, .int .u64 (M j).br, .int .u64 (M j).bn, .string (M j).vl, .int .u64 (M j).pr, .int .u64 (M j).pn, .string (M j).pv, .int .u64 (M j).qr, .int .u64 (M j).qn] 36)) := hsi.alloc (by omega) _
        have HX : Hid ((wr.alloc (.cells #[.int .u8 (M j).ty, .int .u64 (M j).fr, .int .u64 (M j).tt, .int .u64 (M j).br, .int .u64 (M j).bn, .string (M j).vl, .int .u64 (M j).pr, .int .u64 (M j).pn, .string (M j).pv, .int .u64 (M j).qr, .int .u64 (M j).qn] 36)).heap[wr.heap.size]? = some (.cells #[.int .u8 (M j).ty, .int .u64 (M j).fr, .int .u64 (M j).tt, .int .u64 (M j).br, .int .u64 (M j).bn, .string (M j).vl, .int .u64 (M j).pr, .int .u64 (M j).pn, .string (M j).pv, .int .u64 (M j).qr, .int .u64 (M j).qn] 36 (0, 0))) := heap_alloc_last _ _
        have HLS : Hid (LS (wr.alloc (.cells #[.int .u8 (M j).ty, .int .u64 (M j).fr, .int .u64 (M j).tt, .int .u64 (M j).br, .int .u64 (M j).bn, .string (M j).vl, .int .u64 (M j).pr, .int .u64 (M j).pn, .string (M j).pv, .int .u64 (M j).qr, .int .u64 (M j).qn] 36)) w9.heap.size (.slice ao9 n cap9) n X M j L r d s) := hLS.since hsx
        have HWt : Hid ((wr.alloc (.cells #[.int .u8 (M j).ty, .int .u64 (M j).fr, .int .u64 (M j).tt, .int .u64 (M j).br, .int .u64 (M j).bn, .string (M j).vl, .int .u64 (M j).pr, .int .u64 (M j).pn, .string (M j).pv, .int .u64 (M j).qr, .int .u64 (M j).qn] 36)).rowIs (w9.heap.size + 2) 34 3 (wcell r d s)) := rowIs_since hWt hsx
        clear hLS hWt
        have hxs : (wr.alloc (.cells #[.int .u8 (M j).ty, .int .u64 (M j).fr, .int .u64 (M j).tt, .int .u64 (M j).br, .int .u64 (M j).bn, .string (M j).vl, .int .u64 (M j).pr, .int .u64 (M j).pn, .string (M j).pv, .int .u64 (M j).qr, .int .u64 (M j).qn] 36)).heap.size = wr.heap.size + 1 := by simp
        cases L with
        | true =>
          have hexp : expd n X M j true = false := by simp [expd]
          go_wp2_with fail
          have sv := hsx9
          have LSv := HLS.out
          have Wtv := HWt.out
          have Xv := HX.out
          refine (zzMessage (M j) _).mono ?_
          rintro e w13 ⟨rfl, s13⟩
          have s13' : w9.Since w9.heap.size w13 := sv.trans (since_le s13 sv.size)
          have LS13 := LSv.since s13
          have Wt13 := rowIs_since Wtv s13
          have X13 := (s13.block _ (Array.getElem?_eq_some_iff.1 Xv).1).trans Xv
          have hst := step w9.heap.size (.slice ao9 n cap9) n X M j true r d s w13 (by omega) (by omega) LS13 (fun w' h => HA2.out w' (s13'.trans h)) (by have := LS13.lb; omega) hwfj
          unfold StepPost at hst
          rw [hexp] at hst
          clear LSv Wtv Xv s13
          go_wp2_with fail
          refine hst.mono ?_
          rintro e w12 ⟨rfl, s12, keep, LS12⟩
          clear hst
          simp only [Bool.or_false, Bool.false_eq_true, if_false] at LS12
          have s12' : w9.Since w9.heap.size w12 := s13'.trans s12
          obtain ⟨xw, hxw⟩ := rowIs_obj Wt13
          have Wt12 : w12.rowIs (w9.heap.size + 2) 34 3 (wcell r d s) := Wt13.of_block ((keep _ _ _ (by decide) (by decide) hxw).trans hxw.symm)
          clear Wt13 LS13 X13 hxw keep s12 s13'
          have LSe := LS12
          have Wte := Wt12
          have se := s12'
          have hsz9 := se.size
          have HCh : Hid (∀ w', w'.heap = w12.heap → Calls Try.prog 14 #[.pointer (some ⟨w9.heap.size + 1, 0, none⟩)] w' fun e w'' => e = .returned (.agg #[.int .u64 r, .int .u64 d, .string s]) ∧ w'' = w'.alloc (.cells #[.int .u64 r, .int .u64 d, .string s] 34)) := by
            intro w' e
            obtain ⟨c2, c3, c4⟩ := LSe.cell
            exact chosenAt _ _ _ _ w' (by rw [← c2]; simp only [World.cell?, e]) (by rw [← c3]; simp only [World.cell?, e]) (by rw [← c4]; simp only [World.cell?, e])
          have w0 : w12.cell? ⟨w9.heap.size + 2, 0, none⟩ = some (.int .u64 r) := by simpa [wcell] using Wte.cell (i := 0) (by omega)
          have w1 : w12.cell? ⟨w9.heap.size + 2, 1, none⟩ = some (.int .u64 d) := by simpa [wcell] using Wte.cell (i := 1) (by omega)
          have w2 : w12.cell? ⟨w9.heap.size + 2, 2, none⟩ = some (.string s) := by simpa [wcell] using Wte.cell (i := 2) (by omega)
          have hwl := Wte.lt
          have hne := fun w => neq34 (r := r) (d := d) (s := s) hwb hss w
          have HLe : Hid (LS w12 w9.heap.size (.slice ao9 n cap9) n X M (j + 1) true r d s) := LSe
          have HWe : Hid (w12.rowIs (w9.heap.size + 2) 34 3 (wcell r d s)) := Wte
          clear LSe Wte
          go_wp2_with fail
          go_region_with (go_at_call 14; refine (HCh.out _ ?_).mono ?_; rfl; rintro e w14 ⟨rfl, rfl⟩)
          all_goals
            go_wp2
            go_roundg (m - (j + 1))
            case measure => omega
            case rel =>
              have hsq := (World.Since.refl w12.heap.size w12).alloc (Nat.le_refl _) (.cells #[.int .u64 r, .int .u64 d, .string s] 34)
              exact ⟨j + 1, true, r, d, s, by omega, rfl, by go_num, rfl, (se.alloc (by omega) _).drew, HLe.out.since hsq.drew, rowIs_since HWe.out hsq.drew, hwb, hss⟩
        | false =>
          by_cases h4 : (M j).ty = 4
          · have hb : ((M j).ty == 4) = true := by simpa using h4
            have H4 : Hid ((M j).ty = 4) := h4
            clear h4
            cases hhas : has n X (M j).fr with
            | false =>
              have hexp : expd n X M j false = false := by simp [expd, hhas]
              have hz := zzHas (.slice ao7 n cap7) n X (M j).fr _ (by omega) (HA1.out _ hsx9)
              rw [hhas] at hz
              go_wp2_with fail
              refine hz.mono ?_
              rintro e _ ⟨rfl, rfl⟩
              clear hz
              go_wp2_with fail
              have sv := hsx9
              have LSv := HLS.out
              have Wtv := HWt.out
              have Xv := HX.out
              refine (zzMessage (M j) _).mono ?_
              rintro e w13 ⟨rfl, s13⟩
              have s13' : w9.Since w9.heap.size w13 := sv.trans (since_le s13 sv.size)
              have LS13 := LSv.since s13
              have Wt13 := rowIs_since Wtv s13
              have X13 := (s13.block _ (Array.getElem?_eq_some_iff.1 Xv).1).trans Xv
              have hst := step w9.heap.size (.slice ao9 n cap9) n X M j false r d s w13 (by omega) (by omega) LS13 (fun w' h => HA2.out w' (s13'.trans h)) (by have := LS13.lb; omega) hwfj
              unfold StepPost at hst
              rw [hexp] at hst
              clear LSv Wtv Xv s13
              go_wp2_with fail
              refine hst.mono ?_
              rintro e w12 ⟨rfl, s12, keep, LS12⟩
              clear hst
              simp only [Bool.or_false, Bool.false_eq_true, if_false] at LS12
              have s12' : w9.Since w9.heap.size w12 := s13'.trans s12
              obtain ⟨xw, hxw⟩ := rowIs_obj Wt13
              have Wt12 : w12.rowIs (w9.heap.size + 2) 34 3 (wcell r d s) := Wt13.of_block ((keep _ _ _ (by decide) (by decide) hxw).trans hxw.symm)
              clear Wt13 LS13 X13 hxw keep s12 s13'
              have LSe := LS12
              have Wte := Wt12
              have se := s12'
              have hsz9 := se.size
              have HCh : Hid (∀ w', w'.heap = w12.heap → Calls Try.prog 14 #[.pointer (some ⟨w9.heap.size + 1, 0, none⟩)] w' fun e w'' => e = .returned (.agg #[.int .u64 r, .int .u64 d, .string s]) ∧ w'' = w'.alloc (.cells #[.int .u64 r, .int .u64 d, .string s] 34)) := by
                intro w' e
                obtain ⟨c2, c3, c4⟩ := LSe.cell
                exact chosenAt _ _ _ _ w' (by rw [← c2]; simp only [World.cell?, e]) (by rw [← c3]; simp only [World.cell?, e]) (by rw [← c4]; simp only [World.cell?, e])
              have w0 : w12.cell? ⟨w9.heap.size + 2, 0, none⟩ = some (.int .u64 r) := by simpa [wcell] using Wte.cell (i := 0) (by omega)
              have w1 : w12.cell? ⟨w9.heap.size + 2, 1, none⟩ = some (.int .u64 d) := by simpa [wcell] using Wte.cell (i := 1) (by omega)
              have w2 : w12.cell? ⟨w9.heap.size + 2, 2, none⟩ = some (.string s) := by simpa [wcell] using Wte.cell (i := 2) (by omega)
              have hwl := Wte.lt
              have hne := fun w => neq34 (r := r) (d := d) (s := s) hwb hss w
              have HLe : Hid (LS w12 w9.heap.size (.slice ao9 n cap9) n X M (j + 1) false r d s) := LSe
              have HWe : Hid (w12.rowIs (w9.heap.size + 2) 34 3 (wcell r d s)) := Wte
              clear LSe Wte
              go_wp2_with fail
              go_region_with (go_at_call 14; refine (HCh.out _ ?_).mono ?_; rfl; rintro e w14 ⟨rfl, rfl⟩)
              all_goals
                go_wp2
                go_roundg (m - (j + 1))
                case measure => omega
                case rel =>
                  have hsq := (World.Since.refl w12.heap.size w12).alloc (Nat.le_refl _) (.cells #[.int .u64 r, .int .u64 d, .string s] 34)
                  exact ⟨j + 1, false, r, d, s, by omega, rfl, by go_num, rfl, (se.alloc (by omega) _).drew, HLe.out.since hsq.drew, rowIs_since HWe.out hsq.drew, hwb, hss⟩
            | true =>
              have hz := zzHas (.slice ao7 n cap7) n X (M j).fr _ (by omega) (HA1.out _ hsx9)
              rw [hhas] at hz
              go_wp2_with fail
              refine hz.mono ?_
              rintro e _ ⟨rfl, rfl⟩
              clear hz
              have h11 := weight n m j X M (.slice ao7 n cap7) (.slice (some ⟨sbj, oj, none⟩) m cap8) (M j).br (M j).bn _ (by omega) (by omega) hlt (HA1.out _ hsx9) (HA3.out _ hsx9)
              have hwle : wt n X M (j + 1) (M j).br (M j).bn ≤ n := cnt_le _ _
              have hexpq : ∀ q : Bool, decide (n < 2 * wt n X M (j + 1) (M j).br (M j).bn) = q → expd n X M j false = q := fun q hq => by simp [expd, H4.out, hhas, hq]
              go_wp2_with fail
              refine h11.mono ?_
              rintro e w11 ⟨rfl, s11⟩
              clear h11
              have sv : w9.Since w9.heap.size w11 := hsx9.trans (since_le s11 (by omega))
              have LSv := HLS.out.since s11
              have Wtv := rowIs_since HWt.out s11
              have Xv := (s11.block _ (Array.getElem?_eq_some_iff.1 HX.out).1).trans HX.out
              have y0 : w11.cell? ⟨wr.heap.size, 0, none⟩ = some (.int .u8 (M j).ty) := by simp [World.cell?, Xv]
              have y1 : w11.cell? ⟨wr.heap.size, 1, none⟩ = some (.int .u64 (M j).fr) := by simp [World.cell?, Xv]
              have y2 : w11.cell? ⟨wr.heap.size, 2, none⟩ = some (.int .u64 (M j).tt) := by simp [World.cell?, Xv]
              have y3 : w11.cell? ⟨wr.heap.size, 3, none⟩ = some (.int .u64 (M j).br) := by simp [World.cell?, Xv]
              have y4 : w11.cell? ⟨wr.heap.size, 4, none⟩ = some (.int .u64 (M j).bn) := by simp [World.cell?, Xv]
              have y5 : w11.cell? ⟨wr.heap.size, 5, none⟩ = some (.string (M j).vl) := by simp [World.cell?, Xv]
              have y6 : w11.cell? ⟨wr.heap.size, 6, none⟩ = some (.int .u64 (M j).pr) := by simp [World.cell?, Xv]
              have y7 : w11.cell? ⟨wr.heap.size, 7, none⟩ = some (.int .u64 (M j).pn) := by simp [World.cell?, Xv]
              have y8 : w11.cell? ⟨wr.heap.size, 8, none⟩ = some (.string (M j).pv) := by simp [World.cell?, Xv]
              have y9 : w11.cell? ⟨wr.heap.size, 9, none⟩ = some (.int .u64 (M j).qr) := by simp [World.cell?, Xv]
              have y10 : w11.cell? ⟨wr.heap.size, 10, none⟩ = some (.int .u64 (M j).qn) := by simp [World.cell?, Xv]
              clear s11 HLS HWt HX
              by_cases hwt : n < 2 * wt n X M (j + 1) (M j).br (M j).bn
              · have hexp := hexpq true (decide_eq_true hwt)
                clear hexpq
                generalize wt n X M (j + 1) (M j).br (M j).bn = W at *
                go_wp2_with fail
                clear y0 y1 y2 y3 y4 y5 y6 y7 y8 y9 y10
                refine (zzMessage (M j) _).mono ?_
                rintro e w13 ⟨rfl, s13⟩
                have s13' : w9.Since w9.heap.size w13 := sv.trans (since_le s13 sv.size)
                have LS13 := LSv.since s13
                have Wt13 := rowIs_since Wtv s13
                have X13 := (s13.block _ (Array.getElem?_eq_some_iff.1 Xv).1).trans Xv
                have hst := step w9.heap.size (.slice ao9 n cap9) n X M j false r d s w13 (by omega) (by omega) LS13 (fun w' h => HA2.out w' (s13'.trans h)) (by have := LS13.lb; omega) hwfj
                unfold StepPost at hst
                rw [hexp] at hst
                clear LSv Wtv Xv s13
                go_wp2_with fail
                refine hst.mono ?_
                rintro e w12 ⟨rfl, s12, keep, LS12⟩
                clear hst
                simp only [Bool.or_true, if_true] at LS12
                have s12' : w9.Since w9.heap.size w12 := s13'.trans s12
                obtain ⟨xw, hxw⟩ := rowIs_obj Wt13
                have Wt12 : w12.rowIs (w9.heap.size + 2) 34 3 (wcell r d s) := Wt13.of_block ((keep _ _ _ (by decide) (by decide) hxw).trans hxw.symm)
                have X12 := keep _ _ _ (by decide) (by decide) X13
                clear Wt13 LS13 X13 hxw keep s12 s13'
                have x3 : w12.cell? ⟨wr.heap.size, 3, none⟩ = some (.int .u64 (M j).br) := by simp [World.cell?, X12]
                have x4 : w12.cell? ⟨wr.heap.size, 4, none⟩ = some (.int .u64 (M j).bn) := by simp [World.cell?, X12]
                have x5 : w12.cell? ⟨wr.heap.size, 5, none⟩ = some (.string (M j).vl) := by simp [World.cell?, X12]
                have v0 : w12.cell? ⟨w9.heap.size + 2, 0, none⟩ = some (.int .u64 r) := by simpa [wcell] using Wt12.cell (i := 0) (by omega)
                have v1 : w12.cell? ⟨w9.heap.size + 2, 1, none⟩ = some (.int .u64 d) := by simpa [wcell] using Wt12.cell (i := 1) (by omega)
                have v2 : w12.cell? ⟨w9.heap.size + 2, 2, none⟩ = some (.string s) := by simpa [wcell] using Wt12.cell (i := 2) (by omega)
                have f0 := Wt12.frozen 0
                have f1 := Wt12.frozen 1
                have f2 := Wt12.frozen 2
                have LSe : LS (((w12.setCell ⟨w9.heap.size + 2, 0, none⟩ (.int .u64 (M j).br)).setCell ⟨w9.heap.size + 2, 1, none⟩ (.int .u64 (M j).bn)).setCell ⟨w9.heap.size + 2, 2, none⟩ (.string (M j).vl)) w9.heap.size (.slice ao9 n cap9) n X M (j + 1) true (M j).br (M j).bn (M j).vl := by
                  rcases LS12 with ⟨h0, _⟩ | ⟨_, hr⟩
                  · simp at h0
                  · exact .inr ⟨rfl, ((hr.setOther (by show w9.heap.size + 1 ≠ w9.heap.size + 2; omega) _).setOther (by show w9.heap.size + 1 ≠ w9.heap.size + 2; omega) _).setOther (by show w9.heap.size + 1 ≠ w9.heap.size + 2; omega) _⟩
                have Wte : (((w12.setCell ⟨w9.heap.size + 2, 0, none⟩ (.int .u64 (M j).br)).setCell ⟨w9.heap.size + 2, 1, none⟩ (.int .u64 (M j).bn)).setCell ⟨w9.heap.size + 2, 2, none⟩ (.string (M j).vl)).rowIs (w9.heap.size + 2) 34 3 (wcell (M j).br (M j).bn (M j).vl) := by
                  refine (((Wt12.set 0 _).set 1 _).set 2 _).congr (fun i hi => ?_)
                  unfold wcell
                  match i, hi with
                  | 0, _ => simp
                  | 1, _ => simp
                  | 2, _ => simp
                have se : w9.Since w9.heap.size (((w12.setCell ⟨w9.heap.size + 2, 0, none⟩ (.int .u64 (M j).br)).setCell ⟨w9.heap.size + 2, 1, none⟩ (.int .u64 (M j).bn)).setCell ⟨w9.heap.size + 2, 2, none⟩ (.string (M j).vl)) := ((s12'.setCell (by show w9.heap.size ≤ w9.heap.size + 2; omega) _).setCell (by show w9.heap.size ≤ w9.heap.size + 2; omega) _).setCell (by show w9.heap.size ≤ w9.heap.size + 2; omega) _
                have HLS' : Hid (LS (((w12.setCell ⟨w9.heap.size + 2, 0, none⟩ (.int .u64 (M j).br)).setCell ⟨w9.heap.size + 2, 1, none⟩ (.int .u64 (M j).bn)).setCell ⟨w9.heap.size + 2, 2, none⟩ (.string (M j).vl)) w9.heap.size (.slice ao9 n cap9) n X M (j + 1) true (M j).br (M j).bn (M j).vl) := LSe
                have HWt' : Hid ((((w12.setCell ⟨w9.heap.size + 2, 0, none⟩ (.int .u64 (M j).br)).setCell ⟨w9.heap.size + 2, 1, none⟩ (.int .u64 (M j).bn)).setCell ⟨w9.heap.size + 2, 2, none⟩ (.string (M j).vl)).rowIs (w9.heap.size + 2) 34 3 (wcell (M j).br (M j).bn (M j).vl)) := Wte
                have Hse : Hid (w9.Since w9.heap.size (((w12.setCell ⟨w9.heap.size + 2, 0, none⟩ (.int .u64 (M j).br)).setCell ⟨w9.heap.size + 2, 1, none⟩ (.int .u64 (M j).bn)).setCell ⟨w9.heap.size + 2, 2, none⟩ (.string (M j).vl))) := se
                clear LSe Wte se LS12 Wt12 X12
                go_wp2_with fail
                have LSe0 := HLS'.out
                have Wte0 := HWt'.out
                have se := Hse.out
                clear HLS' HWt' Hse
                generalize World.setCell (World.setCell (World.setCell w12 ⟨w9.heap.size + 2, 0, none⟩ (.int .u64 (M j).br)) ⟨w9.heap.size + 2, 1, none⟩ (.int .u64 (M j).bn)) ⟨w9.heap.size + 2, 2, none⟩ (.string (M j).vl) = we at *
                have LSe : LS we w9.heap.size (.slice ao9 n cap9) n X M (j + 1) true (M j).br (M j).bn (M j).vl := LSe0
                have Wte : we.rowIs (w9.heap.size + 2) 34 3 (wcell (M j).br (M j).bn (M j).vl) := Wte0
                have hsz9 : w9.heap.size ≤ we.heap.size := se.size
                clear LSe0 Wte0 x3 x4 x5 v0 v1 v2 f0 f1 f2
                have HCh : Hid (∀ w', w'.heap = we.heap → Calls Try.prog 14 #[.pointer (some ⟨w9.heap.size + 1, 0, none⟩)] w' fun e w'' => e = .returned (.agg #[.int .u64 (M j).br, .int .u64 (M j).bn, .string (M j).vl]) ∧ w'' = w'.alloc (.cells #[.int .u64 (M j).br, .int .u64 (M j).bn, .string (M j).vl] 34)) := by
                  intro w' e
                  obtain ⟨c2, c3, c4⟩ := LSe.cell
                  exact chosenAt _ _ _ _ w' (by rw [← c2]; simp only [World.cell?, e]) (by rw [← c3]; simp only [World.cell?, e]) (by rw [← c4]; simp only [World.cell?, e])
                have w0 : we.cell? ⟨w9.heap.size + 2, 0, none⟩ = some (.int .u64 (M j).br) := by simpa [wcell] using Wte.cell (i := 0) (by omega)
                have w1 : we.cell? ⟨w9.heap.size + 2, 1, none⟩ = some (.int .u64 (M j).bn) := by simpa [wcell] using Wte.cell (i := 1) (by omega)
                have w2 : we.cell? ⟨w9.heap.size + 2, 2, none⟩ = some (.string (M j).vl) := by simpa [wcell] using Wte.cell (i := 2) (by omega)
                have hwl := Wte.lt
                have hne := fun w => neq34 (r := (M j).br) (d := (M j).bn) (s := (M j).vl) hwfj (by unfold maxLen; omega) w
                have HLe : Hid (LS we w9.heap.size (.slice ao9 n cap9) n X M (j + 1) true (M j).br (M j).bn (M j).vl) := LSe
                have HWe : Hid (we.rowIs (w9.heap.size + 2) 34 3 (wcell (M j).br (M j).bn (M j).vl)) := Wte
                clear LSe Wte
                go_wp2_with fail
                go_region_with (go_at_call 14; refine (HCh.out _ ?_).mono ?_; rfl; rintro e w14 ⟨rfl, rfl⟩)
                all_goals
                  go_wp2
                  go_roundg (m - (j + 1))
                  case measure => omega
                  case rel =>
                    have hsq := (World.Since.refl we.heap.size we).alloc (Nat.le_refl _) (.cells #[.int .u64 (M j).br, .int .u64 (M j).bn, .string (M j).vl] 34)
                    exact ⟨j + 1, true, (M j).br, (M j).bn, (M j).vl, by omega, rfl, by go_num, rfl, (se.alloc (by omega) _).drew, HLe.out.since hsq.drew, rowIs_since HWe.out hsq.drew, hwfj, (by unfold maxLen; omega)⟩
              · have hexp := hexpq false (decide_eq_false hwt)
                clear hexpq
                generalize wt n X M (j + 1) (M j).br (M j).bn = W at *
                go_wp2_with fail
                clear y0 y1 y2 y3 y4 y5 y6 y7 y8 y9 y10
                refine (zzMessage (M j) _).mono ?_
                rintro e w13 ⟨rfl, s13⟩
                have s13' : w9.Since w9.heap.size w13 := sv.trans (since_le s13 sv.size)
                have LS13 := LSv.since s13
                have Wt13 := rowIs_since Wtv s13
                have X13 := (s13.block _ (Array.getElem?_eq_some_iff.1 Xv).1).trans Xv
                have hst := step w9.heap.size (.slice ao9 n cap9) n X M j false r d s w13 (by omega) (by omega) LS13 (fun w' h => HA2.out w' (s13'.trans h)) (by have := LS13.lb; omega) hwfj
                unfold StepPost at hst
                rw [hexp] at hst
                clear LSv Wtv Xv s13
                go_wp2_with fail
                refine hst.mono ?_
                rintro e w12 ⟨rfl, s12, keep, LS12⟩
                clear hst
                simp only [Bool.or_false, Bool.false_eq_true, if_false] at LS12
                have s12' : w9.Since w9.heap.size w12 := s13'.trans s12
                obtain ⟨xw, hxw⟩ := rowIs_obj Wt13
                have Wt12 : w12.rowIs (w9.heap.size + 2) 34 3 (wcell r d s) := Wt13.of_block ((keep _ _ _ (by decide) (by decide) hxw).trans hxw.symm)
                clear Wt13 LS13 X13 hxw keep s12 s13'
                have LSe := LS12
                have Wte := Wt12
                have se := s12'
                have hsz9 := se.size
                have HCh : Hid (∀ w', w'.heap = w12.heap → Calls Try.prog 14 #[.pointer (some ⟨w9.heap.size + 1, 0, none⟩)] w' fun e w'' => e = .returned (.agg #[.int .u64 r, .int .u64 d, .string s]) ∧ w'' = w'.alloc (.cells #[.int .u64 r, .int .u64 d, .string s] 34)) := by
                  intro w' e
                  obtain ⟨c2, c3, c4⟩ := LSe.cell
                  exact chosenAt _ _ _ _ w' (by rw [← c2]; simp only [World.cell?, e]) (by rw [← c3]; simp only [World.cell?, e]) (by rw [← c4]; simp only [World.cell?, e])
                have w0 : w12.cell? ⟨w9.heap.size + 2, 0, none⟩ = some (.int .u64 r) := by simpa [wcell] using Wte.cell (i := 0) (by omega)
                have w1 : w12.cell? ⟨w9.heap.size + 2, 1, none⟩ = some (.int .u64 d) := by simpa [wcell] using Wte.cell (i := 1) (by omega)
                have w2 : w12.cell? ⟨w9.heap.size + 2, 2, none⟩ = some (.string s) := by simpa [wcell] using Wte.cell (i := 2) (by omega)
                have hwl := Wte.lt
                have hne := fun w => neq34 (r := r) (d := d) (s := s) hwb hss w
                have HLe : Hid (LS w12 w9.heap.size (.slice ao9 n cap9) n X M (j + 1) false r d s) := LSe
                have HWe : Hid (w12.rowIs (w9.heap.size + 2) 34 3 (wcell r d s)) := Wte
                clear LSe Wte
                go_wp2_with fail
                go_region_with (go_at_call 14; refine (HCh.out _ ?_).mono ?_; rfl; rintro e w14 ⟨rfl, rfl⟩)
                all_goals
                  go_wp2
                  go_roundg (m - (j + 1))
                  case measure => omega
                  case rel =>
                    have hsq := (World.Since.refl w12.heap.size w12).alloc (Nat.le_refl _) (.cells #[.int .u64 r, .int .u64 d, .string s] 34)
                    exact ⟨j + 1, false, r, d, s, by omega, rfl, by go_num, rfl, (se.alloc (by omega) _).drew, HLe.out.since hsq.drew, rowIs_since HWe.out hsq.drew, hwb, hss⟩
          · have hb : ((M j).ty == 4) = false := by simpa using h4
            have hexp : expd n X M j false = false := by simp [expd, h4]
            go_wp2_with fail
            have sv := hsx9
            have LSv := HLS.out
            have Wtv := HWt.out
            have Xv := HX.out
            refine (zzMessage (M j) _).mono ?_
            rintro e w13 ⟨rfl, s13⟩
            have s13' : w9.Since w9.heap.size w13 := sv.trans (since_le s13 sv.size)
            have LS13 := LSv.since s13
            have Wt13 := rowIs_since Wtv s13
            have X13 := (s13.block _ (Array.getElem?_eq_some_iff.1 Xv).1).trans Xv
            have hst := step w9.heap.size (.slice ao9 n cap9) n X M j false r d s w13 (by omega) (by omega) LS13 (fun w' h => HA2.out w' (s13'.trans h)) (by have := LS13.lb; omega) hwfj
            unfold StepPost at hst
            rw [hexp] at hst
            clear LSv Wtv Xv s13
            go_wp2_with fail
            refine hst.mono ?_
            rintro e w12 ⟨rfl, s12, keep, LS12⟩
            clear hst
            simp only [Bool.or_false, Bool.false_eq_true, if_false] at LS12
            have s12' : w9.Since w9.heap.size w12 := s13'.trans s12
            obtain ⟨xw, hxw⟩ := rowIs_obj Wt13
            have Wt12 : w12.rowIs (w9.heap.size + 2) 34 3 (wcell r d s) := Wt13.of_block ((keep _ _ _ (by decide) (by decide) hxw).trans hxw.symm)
            clear Wt13 LS13 X13 hxw keep s12 s13'
            have LSe := LS12
            have Wte := Wt12
            have se := s12'
            have hsz9 := se.size
            have HCh : Hid (∀ w', w'.heap = w12.heap → Calls Try.prog 14 #[.pointer (some ⟨w9.heap.size + 1, 0, none⟩)] w' fun e w'' => e = .returned (.agg #[.int .u64 r, .int .u64 d, .string s]) ∧ w'' = w'.alloc (.cells #[.int .u64 r, .int .u64 d, .string s] 34)) := by
              intro w' e
              obtain ⟨c2, c3, c4⟩ := LSe.cell
              exact chosenAt _ _ _ _ w' (by rw [← c2]; simp only [World.cell?, e]) (by rw [← c3]; simp only [World.cell?, e]) (by rw [← c4]; simp only [World.cell?, e])
            have w0 : w12.cell? ⟨w9.heap.size + 2, 0, none⟩ = some (.int .u64 r) := by simpa [wcell] using Wte.cell (i := 0) (by omega)
            have w1 : w12.cell? ⟨w9.heap.size + 2, 1, none⟩ = some (.int .u64 d) := by simpa [wcell] using Wte.cell (i := 1) (by omega)
            have w2 : w12.cell? ⟨w9.heap.size + 2, 2, none⟩ = some (.string s) := by simpa [wcell] using Wte.cell (i := 2) (by omega)
            have hwl := Wte.lt
            have hne := fun w => neq34 (r := r) (d := d) (s := s) hwb hss w
            have HLe : Hid (LS w12 w9.heap.size (.slice ao9 n cap9) n X M (j + 1) false r d s) := LSe
            have HWe : Hid (w12.rowIs (w9.heap.size + 2) 34 3 (wcell r d s)) := Wte
            clear LSe Wte
            go_wp2_with fail
            go_region_with (go_at_call 14; refine (HCh.out _ ?_).mono ?_; rfl; rintro e w14 ⟨rfl, rfl⟩)
            all_goals
              go_wp2
              go_roundg (m - (j + 1))
              case measure => omega
              case rel =>
                have hsq := (World.Since.refl w12.heap.size w12).alloc (Nat.le_refl _) (.cells #[.int .u64 r, .int .u64 d, .string s] 34)
                exact ⟨j + 1, false, r, d, s, by omega, rfl, by go_num, rfl, (se.alloc (by omega) _).drew, HLe.out.since hsq.drew, rowIs_since HWe.out hsq.drew, hwb, hss⟩
      · go_wp2
        go_ret
        exact ⟨rfl, t9.trans (since_le hsi (by have := t9.size; omega))⟩
end Go.Proofs.Qxb6601152a
