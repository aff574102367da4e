/- ToInt32 and its reference: the walks. -/
import Derived.Test.YtkhnkemmkedfcaaFloC
import Derived.Laws.NewFold
namespace Go.Proofs.Ytkhnkemmkedfcaa.Flo
open Ieee Go.RowKit Go.Proofs.Ytkhnkemmkedfcaa.Aid
attribute [local go_sem ↓] Go.wp_at_zero Go.wp_at_succ
set_option linter.unusedVariables false
set_option maxRecDepth 100000 in
theorem signbit (b : Nat) (w : World) (h : b < 18446744073709551616) : Calls Try.prog 40 #[.float .f64 b] w fun e w' => e = .returned (.bool (neg b)) ∧ w' = w := by
  have hb := callBits
  have hs : decide (RowKit.wrap64 (b : Int) < 0) = neg b := by
    unfold RowKit.wrap64 neg
    by_cases c : b < 9223372036854775808
    · rw [show b / 9223372036854775808 = 0 by omega, decide_eq_false (by omega)]
      rfl
    · rw [show b / 9223372036854775808 = 1 by omega, decide_eq_true (by omega)]
      rfl
  have HS := Lib.hid hs
  clear hs
  go_enter Try.func40, Try.ntmps40
  go_wp2_with fail
  go_returns
  exact ⟨by rw [← HS.out]; rfl, rfl⟩
set_option maxRecDepth 100000 in
theorem modTop (b : Nat) (w : World) (h : b < 9218868437227405312) : Calls Try.prog 38 #[.float .f64 b, .float .f64 4751297606875873280] w (ModPost b w) := by
  have H := Lib.hid (mod b w h)
  clear h
  go_enter Try.func38, Try.ntmps38
  go_wp2_with fail
  refine H.out.mono ?_
  rintro e w' ⟨rfl, r, rfl, h1, h2⟩
  have H1 := Lib.hid (And.intro h1 h2)
  clear h1 h2
  go_wp2_with fail
  go_returns
  exact ⟨rfl, r, rfl, H1.out⟩
/-- A word that is no number: IsNaN says so, or IsInf. -/
theorem nonFin {b : Nat} (h : ¬ rung b < 9218868437227405312) : (rung b = 9218868437227405312 ∧ double.read b = .infinity (neg b)) ∨ (9218868437227405312 < rung b ∧ ∃ f, double.read b = .nan (neg b) f) := by
  unfold Format.read
  simp only [binade_is, sign_is, inf_is, least_is]
  unfold rung at *
  rw [if_neg (by omega), if_neg h]
  by_cases c : b % 9223372036854775808 = 9218868437227405312
  · rw [if_pos c]
    exact .inl ⟨c, rfl⟩
  · rw [if_neg c]
    exact .inr ⟨by omega, _, rfl⟩
theorem isNaN' (b : Nat) (w : World) : Calls Try.prog 36 #[.float .f64 b] w fun e w' => e = .returned (.bool (decide (9218868437227405312 < rung b))) ∧ w' = w := by
  have hb : (FloatKind.f64.format.order b b != some Ordering.eq) = decide (9218868437227405312 < rung b) := by
    by_cases h : rung b < 9218868437227405312
    · rw [ord_self h, decide_eq_false (by omega)]
    · rcases nonFin h with ⟨c, e⟩ | ⟨c, f, e⟩
      · rw [c]
        show (Format.order Ieee.double b b != _) = _
        unfold Format.order
        rw [e]
        generalize neg b = s
        cases s <;> decide
      · rw [decide_eq_true c]
        show (Format.order Ieee.double b b != _) = _
        unfold Format.order
        rw [e]
        rfl
  have HB := Lib.hid hb
  clear hb
  go_enter Try.func36, Try.ntmps36
  go_wp2_with fail
  go_returns
  exact ⟨by rw [HB.out]; rfl, rfl⟩
set_option maxRecDepth 100000 in
theorem isInf' (b : Nat) (w : World) (h : b < 18446744073709551616) (hf : rung b = 9218868437227405312) : Calls Try.prog 37 #[.float .f64 b, .int .i64 0] w fun e w' => e = .returned (.bool true) ∧ w' = w := by
  have HA := Lib.hid (abs b w h)
  have HG := Lib.hid (show (FloatKind.f64.format.order (rung b) 9218868437227405311 == some Ordering.gt) = true by
    rw [hf]
    decide)
  clear h hf
  go_enter Try.func37, Try.ntmps37
  go_wp2_with fail
  refine HA.out.mono ?_
  rintro e w' ⟨rfl, rfl⟩
  go_wp2_with fail
  go_returns
  exact ⟨by rw [HG.out]; rfl, rfl⟩
set_option maxRecDepth 100000 in
theorem numFinite (b : Nat) (w : World) (h : b < 18446744073709551616) : Calls Try.prog 41 #[.float .f64 b] w fun e w' => e = .returned (.bool (decide (rung b < 9218868437227405312))) ∧ w' = w := by
  have hb := callBits
  obtain ⟨q, hq⟩ : ∃ q, q = b / 4503599627370496 := ⟨_, rfl⟩
  have e1 : (b : Int) / 4503599627370496 = (q : Int) := by omega
  have e2 : bits .and .u64 (q : Int) 2047 = ((q % 2048 : Nat) : Int) := and2047 q (by omega)
  obtain ⟨z, hz⟩ : ∃ z, z = q % 2048 := ⟨_, rfl⟩
  rw [← hz] at e2
  have HS := Lib.hid (show decide (rung b < 9218868437227405312) = !decide ((z : Int) = 2047) by
    unfold rung
    by_cases c : z = 2047
    · rw [decide_eq_false (by omega), decide_eq_true (by omega)]; rfl
    · rw [decide_eq_true (by omega), decide_eq_false (by omega)]; rfl)
  clear hq hz
  go_enter Try.func41, Try.ntmps41
  go_wp2_with fail
  go_returns
  exact ⟨by rw [HS.out]; simp [bne]; rfl, rfl⟩
end Go.Proofs.Ytkhnkemmkedfcaa.Flo
