/- ToInt32: the walks. -/
import Derived.Test.YtkhnkemmkedfcaaFloF
namespace Go.Proofs.Ytkhnkemmkedfcaa.Flo
open Ieee Go.RowKit Go.Proofs.Ytkhnkemmkedfcaa.Aid
attribute [local go_sem ↓] Go.wp_at_zero Go.wp_at_succ
set_option linter.unusedVariables false
set_option maxRecDepth 100000 in
theorem numInt32 (b : Nat) (w : World) (h : b < 18446744073709551616) : Calls Try.prog 12 #[.float .f64 b] w fun e w' => e = .returned (.int .i32 (t32 b)) ∧ w' = w := by
  have H := Lib.hid (numUint32 b w h)
  have hw : IntKind.i32.wrap ((U' b : Nat) : Int) = t32 b := by
    unfold U' t32
    by_cases c : rung b < 9218868437227405312
    · rw [if_pos c, if_pos c]
    · rw [if_neg c, if_neg c]
      rfl
  clear h
  go_enter Try.func12, Try.ntmps12
  go_wp2_with fail
  refine H.out.mono ?_
  rintro e w' ⟨rfl, rfl⟩
  go_wp2_with fail
  go_returns
  exact ⟨rfl, rfl⟩
/-- A conversion to an int32: what fits, or any int32, drawn. -/
theorem castI32 (b : Nat) (w : World) : ∃ n w', (convert 30 21 (.float .f64 b)).run Try.prog w = .ok (.int .i32 n) w' ∧ -2147483648 ≤ n ∧ n ≤ 2147483647 ∧ (w' = w ∨ w' = w.drew) := by
  cases h : floatToIntVal .f64 b .i32 with
  | some n =>
    refine ⟨n, w, run_convert_float_int w 30 21 .f64 .i32 b n (by kernel_rfl) (by kernel_rfl) h, ?_⟩
    unfold floatToIntVal at h
    split at h
    · split at h
      · rename_i hb
        cases h
        exact ⟨hb.1, hb.2, .inl rfl⟩
      · cases h
    · cases h
  | none =>
    refine ⟨IntKind.i32.wrap ((Question.floatToInt .f64 b .i32).cut (w.tape w.drawn (Question.floatToInt .f64 b .i32)) : Nat), w.drew, ?_, ?_, ?_, .inr rfl⟩
    · have h1 : Try.prog.underlying 30 = some (.float .f64) := by kernel_rfl
      have h2 : Try.prog.underlying 21 = some (.int .i32) := by kernel_rfl
      unfold floatToIntVal at h
      have h3 : ∀ n, (FloatKind.f64.decode b).toInt .zero = some n → ¬ (IntKind.i32.min ≤ n ∧ n ≤ IntKind.i32.max) := by
        intro n hn hc
        rw [hn] at h
        simp only [if_pos hc] at h
        cases h
      cases hd : (FloatKind.f64.decode b).toInt .zero with
      | none => simp [convert, run_underlying h1, run_underlying h2, Conv.floatToInt, hd, Question.forced]
      | some n =>
        have := h3 n hd
        simp [convert, run_underlying h1, run_underlying h2, Conv.floatToInt, hd, this, Question.forced]
    · rw [IntKind.wrap_i32]; omega
    · rw [IntKind.wrap_i32]; omega
set_option maxRecDepth 100000 in
set_option maxHeartbeats 2000000 in
theorem jsToInt32 (b : Nat) (w : World) (h : b < 18446744073709551616) {B : Nat} {W : World} (hB : Below B W w) : Calls Try.prog 21 #[.float .f64 b] w fun e w' => e = .returned (.int .i32 (t32 b)) ∧ Below B W w' := by
  obtain ⟨n, w1, hc, n1, n2, hw⟩ := castI32 b w
  have HB1 := Lib.hid (show Below B W w1 by
    rcases hw with e | e
    · rw [e]; exact hB
    · rw [e]; exact hB.drew)
  have HE := Lib.hid (near_eq (b := b) n1 n2)
  clear hw hB
  cases ho : (FloatKind.f64.format.order (floatOfInt .f64 n) b == some Ordering.eq) with
  | true =>
    have HT := Lib.hid (HE.out ho)
    clear h n1 n2
    go_enter Try.func21, Try.ntmps21
    go_wp2_with fail
    go_returns
    exact ⟨by rw [HT.out]; rfl, HB1.out⟩
  | false =>
    have HN := Lib.hid (isNaN' b w1)
    by_cases hf : rung b < 9218868437227405312
    · have HI := Lib.hid (fun w => isInf b w h hf)
      have HA := Lib.hid (fun w => abs b w h)
      have HM := Lib.hid (fun w => modTop (rung b) w hf)
      have HS := Lib.hid (fun w => signbit b w h)
      have HF := Lib.hid hf
      rw [decide_eq_false (show ¬ 9218868437227405312 < rung b by omega)] at HN
      obtain ⟨g, hg⟩ : ∃ g, g = rung b := ⟨_, rfl⟩
      have HG := Lib.hid hg
      rw [← hg] at HA HM
      clear h n1 n2 hf hg
      go_enter Try.func21, Try.ntmps21
      go_wp2_with fail
      refine HN.out.mono ?_
      rintro e w' ⟨rfl, rfl⟩
      go_wp2_with fail
      refine (HI.out _).mono ?_
      rintro e w' ⟨rfl, rfl⟩
      go_wp2_with fail
      refine (HA.out _).mono ?_
      rintro e w' ⟨rfl, rfl⟩
      go_wp2_with fail
      refine (HM.out _).mono ?_
      rintro e w' ⟨rfl, r, rfl, hr, hcg⟩
      have ht : tr r = tr b % 4294967296 := by
        rw [HG.out] at hcg
        rw [tr_cong hr HF.out hcg, tr_rung]
      have hcv : ∀ w, (convert 30 42 (.float .f64 r)).run Try.prog w = .ok (.int .u32 (tr r : Int)) w := fun w => run_convert_float_int w 30 42 .f64 .u32 r _ (by kernel_rfl) (by kernel_rfl) (val_u32 hr)
      obtain ⟨t, hte⟩ : ∃ t, t = tr r := ⟨_, rfl⟩
      rw [← hte] at hcv ht
      have HT := Lib.hid ht
      clear hr hcg hte ht
      obtain ⟨i, hi⟩ : ∃ i, i = IntKind.i32.wrap (t : Int) := ⟨_, rfl⟩
      have hi' := hi.symm
      have HV := Lib.hid hi
      clear hi
      cases hn : neg b
      · have HR := Lib.hid (show t32 b = i by
          unfold t32 U
          rw [if_pos HF.out, hn, HV.out, HT.out]
          rfl)
        rw [hn] at HS
        clear hn
        go_wp2_with fail
        refine (HS.out _).mono ?_
        rintro e w' ⟨rfl, rfl⟩
        go_wp2_with fail
        go_returns
        exact ⟨by rw [HR.out]; rfl, HB1.out⟩
      · have HR := Lib.hid (show t32 b = RowKit.wrap32 (-i) by
          unfold t32 U
          rw [if_pos HF.out, hn, HV.out, HT.out, if_pos rfl, IntKind.wrap_i32, IntKind.wrap_i32]
          unfold RowKit.wrap32
          omega)
        rw [hn] at HS
        clear hn
        go_wp2_with fail
        refine (HS.out _).mono ?_
        rintro e w' ⟨rfl, rfl⟩
        go_wp2_with fail
        go_returns
        exact ⟨by rw [HR.out]; rfl, HB1.out⟩
    · have HR := Lib.hid (show t32 b = 0 by unfold t32; rw [if_neg hf])
      by_cases hi : 9218868437227405312 < rung b
      · rw [decide_eq_true hi] at HN
        clear h n1 n2 hf hi
        go_enter Try.func21, Try.ntmps21
        go_wp2_with fail
        refine HN.out.mono ?_
        rintro e w' ⟨rfl, rfl⟩
        go_wp2_with fail
        go_returns
        exact ⟨by rw [HR.out]; rfl, HB1.out⟩
      · have HI := Lib.hid (fun w => isInf' b w h (by omega))
        rw [decide_eq_false hi] at HN
        clear h n1 n2 hf hi
        go_enter Try.func21, Try.ntmps21
        go_wp2_with fail
        refine HN.out.mono ?_
        rintro e w' ⟨rfl, rfl⟩
        go_wp2_with fail
        refine (HI.out _).mono ?_
        rintro e w' ⟨rfl, rfl⟩
        go_wp2_with fail
        go_returns
        exact ⟨by rw [HR.out]; rfl, HB1.out⟩
set_option maxRecDepth 100000 in
theorem implToInt32 (b : Nat) (w : World) (h : b < 18446744073709551616) {B : Nat} {W : World} (hB : Below B W w) : Calls Try.prog 11 #[.float .f64 b] w fun e w' => e = .returned (.int .i32 (t32 b)) ∧ Below B W w' := by
  have H := Lib.hid (jsToInt32 b w h hB)
  clear h hB
  go_enter Try.func11, Try.ntmps11
  go_wp2_with fail
  refine H.out.mono ?_
  rintro e w' ⟨rfl, hb⟩
  have HB := Lib.hid hb
  clear hb
  go_wp2_with fail
  go_returns
  exact ⟨rfl, HB.out⟩
theorem t32_edge : t32 13970166044106424320 = 2147483647 := by decide
/-- The law. -/
theorem law (b : Nat) (w : World) (hwf : (Lit.float .f64 b).wf = true) : Calls Try.prog 4 #[.float .f64 b] w fun e w' => e = .returned (.bool true) ∧ Below w.heap.size w w' := by
  have h : b < 18446744073709551616 := by simpa [Lit.wf] using hwf
  have H := Lib.hid (implToInt32 b w h (Below.refl w.heap.size w))
  have HS := Lib.hid (fun w => numInt32 b w h)
  have HE := Lib.hid (fun (w' : World) (hb : Below w.heap.size w w') => implToInt32 13970166044106424320 w' (by omega) hb)
  rw [t32_edge] at HE
  clear h hwf
  go_enter Try.func4, Try.ntmps4
  go_wp2_with fail
  refine H.out.mono ?_
  rintro e w1 ⟨rfl, hb⟩
  have HB := Lib.hid hb
  clear hb
  go_wp2_with fail
  refine (HS.out _).mono ?_
  rintro e w' ⟨rfl, rfl⟩
  go_wp2_with fail
  refine (HE.out _ HB.out).mono ?_
  rintro e w2 ⟨rfl, hb2⟩
  have HB2 := Lib.hid hb2
  clear hb2
  go_wp2_with fail
  go_returns
  exact ⟨rfl, HB2.out⟩
end Go.Proofs.Ytkhnkemmkedfcaa.Flo
