/- The reference for ToInt32: the walks. -/
import Derived.Test.YtkhnkemmkedfcaaFloD
namespace Go.Proofs.Ytkhnkemmkedfcaa.Flo
open Ieee Go.RowKit Go.Proofs.Ytkhnkemmkedfcaa.Aid
attribute [local go_sem ↓] Go.wp_at_zero Go.wp_at_succ
set_option linter.unusedVariables false
theorem and52 (x : Nat) (h : x < 18446744073709551616) : bits .and .u64 (x : Int) 4503599627370495 = ((x % 4503599627370496 : Nat) : Int) := by
  have h1 := u64_and_nat x 4503599627370495 h (by omega)
  rw [show ((4503599627370495 : Nat) : Int) = 4503599627370495 from rfl] at h1
  rw [h1, show 4503599627370495 = 2 ^ 52 - 1 by decide, Nat.and_two_pow_sub_one_eq_mod]
theorem or52 (F : Nat) (hF : F < 4503599627370496) : bits .or .u64 (F : Int) 4503599627370496 = ((4503599627370496 + F : Nat) : Int) := by
  have := orExp F 1 hF (by omega)
  rw [show ((1 * 4503599627370496 : Nat) : Int) = 4503599627370496 from rfl] at this
  rw [this, Nat.one_mul]
set_option maxRecDepth 100000 in
set_option maxHeartbeats 1000000 in
theorem numParts (b : Nat) (w : World) (h : b < 18446744073709551616) (hf : rung b < 9218868437227405312) : Calls Try.prog 42 #[.float .f64 b] w fun e w' => e = .returned (.tuple #[.bool (neg b), .int .u64 (mant b), .int .i64 (place b)]) ∧ w' = w := by
  have hb := callBits
  obtain ⟨q, hq⟩ : ∃ q, q = b / 4503599627370496 := ⟨_, rfl⟩
  obtain ⟨s, hs⟩ : ∃ s, s = b / 9223372036854775808 := ⟨_, rfl⟩
  obtain ⟨F, hF⟩ : ∃ F, F = b % 4503599627370496 := ⟨_, rfl⟩
  have e1 : (b : Int) / 4503599627370496 = (q : Int) := by omega
  have e0 : (b : Int) / 9223372036854775808 = (s : Int) := by omega
  have e2 : bits .and .u64 (q : Int) 2047 = ((q % 2048 : Nat) : Int) := and2047 q (by omega)
  obtain ⟨z, hz⟩ : ∃ z, z = q % 2048 := ⟨_, rfl⟩
  rw [← hz] at e2
  have e3 : bits .and .u64 (b : Int) 4503599627370495 = (F : Int) := by rw [and52 b h, hF]
  have z1 : z < 2048 := by omega
  have wz : IntKind.i64.wrap (z : Int) = z := IntWalk.i64_in _ (by omega)
  have HN := Lib.hid (show neg b = ((s : Int) == 1) by
    unfold neg
    rw [← hs]
    by_cases c : s = 1
    · rw [c]; rfl
    · have : s = 0 := by omega
      rw [this]; rfl)
  by_cases c : z = 0
  · have HM := Lib.hid (show mant b = F ∧ place b = -1074 by
      unfold mant place
      unfold rung at *
      rw [if_pos (by omega), if_pos (by omega)]
      exact ⟨by omega, rfl⟩)
    subst c
    clear hq hs hF hz h hf
    go_enter Try.func42, Try.ntmps42
    go_wp2_with fail
    go_returns
    exact ⟨by rw [HN.out, HM.out.1, HM.out.2]; rfl, rfl⟩
  · have HM := Lib.hid (show mant b = 4503599627370496 + F ∧ place b = (z : Int) - 1075 by
      unfold mant place
      unfold rung at *
      rw [if_neg (by omega), if_neg (by omega)]
      exact ⟨by omega, by omega⟩)
    have e4 := or52 F (by omega)
    have cz : ¬ (z : Int) = 0 := by omega
    obtain ⟨m, hm⟩ : ∃ m, m = 4503599627370496 + F := ⟨_, rfl⟩
    rw [← hm] at e4 HM
    clear hq hs hF hz h hf c hm
    go_enter Try.func42, Try.ntmps42
    go_wp2_with fail
    go_returns
    exact ⟨by rw [HN.out, HM.out.1, HM.out.2]; rfl, rfl⟩
end Go.Proofs.Ytkhnkemmkedfcaa.Flo
