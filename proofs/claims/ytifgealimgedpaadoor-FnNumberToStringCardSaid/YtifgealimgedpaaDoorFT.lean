/- TryToStringOnNumberSafely, and the package's own name for it: what it tells. -/
import Derived.Test.YtifgealimgedpaaDoorFN
import Derived.Lib.SmallJoins
namespace Go.Proofs.YtifgealimgedpaaDoor.Nats
open Ieee Go.RowKit Go.Proofs.YtifgealimgedpaaDoor.Aid Go.Proofs.YtifgealimgedpaaDoor.Runes Go.Proofs.YtifgealimgedpaaDoor.Bytes Go.Proofs.YtifgealimgedpaaDoor.Flo
attribute [local go_sem ↓] Go.wp_at_zero Go.wp_at_succ
set_option linter.unusedVariables false
def Laid (w : World) : Prop := Tz w ∧ 3 < w.heap.size ∧ Lib.TabIs Tryd.prog w "internal/strconv.uint64pow10" .u64 Lib.pow10Tab
theorem Laid.below {w W : World} (h : Laid w) (hb : Below w.heap.size w W) : Laid W :=
  ⟨h.1.below hb h.2.1, Nat.lt_of_lt_of_le h.2.1 hb.size, Joins.tab_stays (g := 1) (by kernel_rfl) h.2.2 hb (Nat.le_refl _)⟩
def SafeText (b r : Nat) (t : ByteArray) : Prop := (∃ n, Told b n ∧ t = ⟨(fmtR r n).toArray⟩) ∨ (9218868437227405312 < rung b ∧ t = tNaN) ∨ (rung b = 9218868437227405312 ∧ t = if neg b then tMin ++ tInf else tInf)
def TryPost (b r : Nat) (w : World) (e : Ending) (w' : World) : Prop := Below w.heap.size w w' ∧ ∃ (t : ByteArray) (z : Bool), e = .returned (.tuple #[.string t, .bool z]) ∧ (z = true → SafeText b r t)
theorem castI32 (b : Nat) (w : World) : ∃ n w', (convert 22 21 (.float .f64 b)).run Tryd.prog w = .ok (.int .i32 n) w' ∧ -2147483648 ≤ n ∧ n ≤ 2147483647 ∧ (w' = w ∨ w' = w.drew) := by
  cases h : floatToIntVal .f64 b .i32 with
  | some n =>
    refine ⟨n, w, run_convert_float_int w 22 21 .f64 .i32 b n (by kernel_rfl) (by kernel_rfl) h, ?_⟩
    unfold floatToIntVal at h
    split at h
    · split at h
      · rename_i hb
        cases h
        exact ⟨hb.1, hb.2, .inl rfl⟩
      · cases h
    · cases h
  | none =>
    refine ⟨IntKind.i32.wrap ((Question.floatToInt .f64 b .i32).cut (w.tape w.drawn (Question.floatToInt .f64 b .i32)) : Nat), w.drew, ?_, ?_, ?_, .inr rfl⟩
    · have h1 : Tryd.prog.underlying 22 = some (.float .f64) := by kernel_rfl
      have h2 : Tryd.prog.underlying 21 = some (.int .i32) := by kernel_rfl
      unfold floatToIntVal at h
      have h3 : ∀ n, (FloatKind.f64.decode b).toInt .zero = some n → ¬ (IntKind.i32.min ≤ n ∧ n ≤ IntKind.i32.max) := by
        intro n hn hc
        rw [hn] at h
        simp only [if_pos hc] at h
        cases h
      cases hd : (FloatKind.f64.decode b).toInt .zero with
      | none => simp [convert, run_underlying h1, run_underlying h2, Conv.floatToInt, hd, Question.forced]
      | some n =>
        have := h3 n hd
        simp [convert, run_underlying h1, run_underlying h2, Conv.floatToInt, hd, this, Question.forced]
    · rw [IntKind.wrap_i32]; omega
    · rw [IntKind.wrap_i32]; omega
set_option maxRecDepth 100000 in
set_option maxHeartbeats 2000000 in
theorem trySafe (b r : Nat) (w : World) (h : b < 18446744073709551616) (h2 : 2 ≤ r) (h36 : r ≤ 36) (hL : Laid w) : Calls Tryd.prog 6 #[.float .f64 b, .int .i64 r] w (TryPost b r w) := by
  obtain ⟨n, w1, hc, n1, n2, hw⟩ := castI32 b w
  have hb1 : Below w.heap.size w w1 := by
    rcases hw with e | e
    · rw [e]; exact Below.refl _ _
    · rw [e]; exact (Below.refl _ _).drew
  have HB1 := Lib.hid hb1
  have hL1 := hL.below hb1
  have HE := Lib.hid (near_eq (b := b) n1 n2)
  cases ho : (FloatKind.f64.format.order (floatOfInt .f64 n) b == some Ordering.eq) with
  | true =>
    have HT := Lib.hid (HE.out ho)
    have HF := Lib.hid (fmtInt r h2 h36 n (by omega) (by omega) w1 hL1.1 hL1.2.1 hL1.2.2)
    clear hL hL1 hb1 hw h
    obtain ⟨F, hF⟩ : ∃ F : ByteArray, F = ⟨(fmtR r n).toArray⟩ := ⟨_, rfl⟩
    rw [← hF] at HF
    have HFF := Lib.hid hF
    clear hF
    go_enter Tryd.func6, Tryd.ntmps6
    go_wp2_with fail
    refine HF.out.mono ?_
    rintro e W ⟨hb, rfl⟩
    have HB2 := Lib.hid (HB1.out.trans (hb.mono HB1.out.size))
    clear hb
    go_wp2_with fail
    go_returns
    exact ⟨HB2.out, F, true, rfl, fun _ => .inl ⟨n, HT.out, HFF.out⟩⟩
  | false =>
    have HN := Lib.hid (isNaN b w1)
    clear hL hL1 hb1 hw
    by_cases hn : 9218868437227405312 < rung b
    · rw [decide_eq_true hn] at HN
      have HNN := Lib.hid hn
      clear hn h
      go_enter Tryd.func6, Tryd.ntmps6
      go_wp2_with fail
      refine HN.out.mono ?_
      rintro e W ⟨rfl, rfl⟩
      go_wp2_with fail
      go_returns
      exact ⟨HB1.out, _, true, rfl, fun _ => .inr (.inl ⟨HNN.out, rfl⟩)⟩
    · have HIP := Lib.hid (fun w => isInfP b w h (by omega))
      have HIM := Lib.hid (fun w => isInfM b w h (by omega))
      rw [decide_eq_false hn] at HN
      by_cases hi : rung b = 9218868437227405312
      · rw [decide_eq_true hi] at HIP HIM
        have HI := Lib.hid hi
        clear hn hi h
        cases hs : neg b
        · rw [hs] at HIP HIM
          have HS := Lib.hid hs
          clear hs
          go_enter Tryd.func6, Tryd.ntmps6
          go_wp2_with fail
          refine HN.out.mono ?_
          rintro e W ⟨rfl, rfl⟩
          go_wp2_with fail
          refine (HIP.out _).mono ?_
          rintro e W ⟨rfl, rfl⟩
          go_wp2_with fail
          go_returns
          exact ⟨HB1.out, _, true, rfl, fun _ => .inr (.inr ⟨HI.out, by rw [HS.out]; rfl⟩)⟩
        · rw [hs] at HIP HIM
          have HS := Lib.hid hs
          clear hs
          go_enter Tryd.func6, Tryd.ntmps6
          go_wp2_with fail
          refine HN.out.mono ?_
          rintro e W ⟨rfl, rfl⟩
          go_wp2_with fail
          refine (HIP.out _).mono ?_
          rintro e W ⟨rfl, rfl⟩
          go_wp2_with fail
          refine (HIM.out _).mono ?_
          rintro e W ⟨rfl, rfl⟩
          go_wp2_with fail
          go_returns
          exact ⟨HB1.out, _, true, rfl, fun _ => .inr (.inr ⟨HI.out, by rw [HS.out]; decide⟩)⟩
      · rw [decide_eq_false hi] at HIP HIM
        clear hn hi h
        go_enter Tryd.func6, Tryd.ntmps6
        go_wp2_with fail
        refine HN.out.mono ?_
        rintro e W ⟨rfl, rfl⟩
        go_wp2_with fail
        refine (HIP.out _).mono ?_
        rintro e W ⟨rfl, rfl⟩
        go_wp2_with fail
        refine (HIM.out _).mono ?_
        rintro e W ⟨rfl, rfl⟩
        go_wp2_with fail
        go_returns
        exact ⟨HB1.out, _, false, rfl, fun h => by cases h⟩
set_option maxRecDepth 100000 in
theorem implTry (b r : Nat) (w : World) (h : b < 18446744073709551616) (h2 : 2 ≤ r) (h36 : r ≤ 36) (hL : Laid w) : Calls Tryd.prog 4 #[.float .f64 b, .int .i64 r] w (TryPost b r w) := by
  have H := Lib.hid (trySafe b r w h h2 h36 hL)
  clear hL h h2 h36
  go_enter Tryd.func4, Tryd.ntmps4
  go_wp2_with fail
  refine H.out.mono ?_
  rintro e W ⟨hb, t, z, rfl, hz⟩
  have HB := Lib.hid hb
  have HZ := Lib.hid hz
  clear hb hz
  go_wp2_with fail
  go_returns
  exact ⟨HB.out, t, z, rfl, HZ.out⟩
end Go.Proofs.YtifgealimgedpaaDoor.Nats
