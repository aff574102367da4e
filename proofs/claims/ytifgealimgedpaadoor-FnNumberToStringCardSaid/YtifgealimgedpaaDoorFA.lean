/- Go's math: the small functions over doubles, at every word. The walks. -/
import Derived.Test.YtifgealimgedpaaDoorFlo
import Derived.Test.YtifgealimgedpaaDoorDB
import Derived.Laws.BitsAllLaws
import Derived.Laws.Externs
namespace Go.Proofs.YtifgealimgedpaaDoor.Flo
open Ieee Go.RowKit Go.Proofs.YtifgealimgedpaaDoor.Aid
attribute [local go_sem ↓] Go.wp_at_zero Go.wp_at_succ
set_option linter.unusedVariables false
def inf : Nat := 9218868437227405312
theorem cmp_self (z : Int) : compare z z = .eq := by unfold compare; simp only [instOrdInt]; unfold compareOfLessAndEq; rw [if_neg (Int.lt_irrefl _), if_pos rfl]
theorem read_inf {b : Nat} (h : rung b = 9218868437227405312) : double.read b = .infinity (neg b) := by
  unfold Format.read
  simp only [binade_is, sign_is, inf_is]
  have h1 : b % 9223372036854775808 = 9218868437227405312 := h
  rw [if_neg (by omega), if_neg (by omega), if_pos h1]
  rfl
theorem read_nan {b : Nat} (h : 9218868437227405312 < rung b) : ∃ t, double.read b = .nan (neg b) t := by
  unfold Format.read
  simp only [binade_is, sign_is, inf_is]
  have h1 : 9218868437227405312 < b % 9223372036854775808 := h
  rw [if_neg (by omega), if_neg (by omega), if_neg (by omega)]
  exact ⟨_, rfl⟩
theorem ord_self (b : Nat) : (FloatKind.f64.format.order b b != some Ordering.eq) = decide (9218868437227405312 < rung b) := by
  show (Format.order Ieee.double b b != some Ordering.eq) = _
  unfold Format.order
  rcases Nat.lt_trichotomy (rung b) 9218868437227405312 with h | h | h
  · rw [read_fin h]
    unfold Datum.order
    simp only [Int.min_self, Int.sub_self]
    rw [cmp_self, decide_eq_false (by omega)]
    rfl
  · rw [read_inf h, decide_eq_false (by omega)]
    cases neg b <;> rfl
  · obtain ⟨t, ht⟩ := read_nan h
    rw [ht, decide_eq_true h]
    rfl
theorem isNaN (b : Nat) (w : World) : Calls Tryd.prog 7 #[.float .f64 b] w fun e w' => e = .returned (.bool (decide (9218868437227405312 < rung b))) ∧ w' = w := by
  have HB := Lib.hid (ord_self b)
  go_enter Tryd.func7, Tryd.ntmps7
  go_wp2_with fail
  go_returns
  exact ⟨by rw [← HB.out]; rfl, rfl⟩
theorem callBits (b : Nat) (w : World) : (callFunc 15 #[.float .f64 b]).run Tryd.prog w = .ok (.value (.int .u64 b)) w := by
  rw [run_callFunc_extern Tryd.func15 (by kernel_rfl) (by kernel_rfl) (by kernel_rfl) (e := Extern.MathFloatBits.float64bits) (by kernel_rfl)]
  rfl
theorem callFrom (n : Nat) (w : World) : (callFunc 19 #[.int .u64 n]).run Tryd.prog w = .ok (.value (.float .f64 n)) w := by
  rw [run_callFunc_extern Tryd.func19 (by kernel_rfl) (by kernel_rfl) (by kernel_rfl) (e := Extern.MathFloatBits.float64frombits) (by kernel_rfl)]
  rfl
theorem an63 (b : Nat) (h : b < 18446744073709551616) : bits .andNot .u64 (b : Int) 9223372036854775808 = ((rung b : Nat) : Int) := by
  have h1 := u64_andNot_nat b 9223372036854775808 h (by omega)
  rw [show ((9223372036854775808 : Nat) : Int) = 9223372036854775808 from rfl] at h1
  rw [h1, show 18446744073709551615 - 9223372036854775808 = 2 ^ 63 - 1 by decide, Nat.and_two_pow_sub_one_eq_mod]
  rfl
theorem and63 (b : Nat) (h : b < 18446744073709551616) : bits .and .u64 (b : Int) 9223372036854775807 = ((rung b : Nat) : Int) := by
  have h1 := u64_and_nat b 9223372036854775807 h (by omega)
  rw [show ((9223372036854775807 : Nat) : Int) = 9223372036854775807 from rfl] at h1
  rw [h1, show 9223372036854775807 = 2 ^ 63 - 1 by decide, Nat.and_two_pow_sub_one_eq_mod]
  rfl
theorem and2047 (x : Nat) (h : x < 18446744073709551616) : bits .and .u64 (x : Int) 2047 = ((x % 2048 : Nat) : Int) := by
  have h1 := u64_and_nat x 2047 h (by omega)
  rw [show ((2047 : Nat) : Int) = 2047 from rfl] at h1
  rw [h1, show 2047 = 2 ^ 11 - 1 by decide, Nat.and_two_pow_sub_one_eq_mod]
set_option maxRecDepth 100000 in
theorem abs (b : Nat) (w : World) (h : b < 18446744073709551616) : Calls Tryd.prog 13 #[.float .f64 b] w fun e w' => e = .returned (.float .f64 (rung b)) ∧ w' = w := by
  have hb := callBits
  have hf := callFrom
  have ha := an63 b h
  go_enter Tryd.func13, Tryd.ntmps13
  go_wp2_with fail
  go_returns
  exact ⟨rfl, rfl⟩
set_option maxRecDepth 100000 in
theorem numFinite (b : Nat) (w : World) (h : b < 18446744073709551616) : Calls Tryd.prog 16 #[.float .f64 b] w fun e w' => e = .returned (.bool (decide (rung b < 9218868437227405312))) ∧ w' = w := by
  have hb := callBits
  obtain ⟨q, hq⟩ : ∃ q, q = b / 4503599627370496 := ⟨_, rfl⟩
  have e1 : (b : Int) / 4503599627370496 = (q : Int) := by omega
  have e2 := and2047 q (by omega)
  obtain ⟨z, hz⟩ : ∃ z, z = q % 2048 := ⟨_, rfl⟩
  rw [← hz] at e2
  have HB := Lib.hid (show ((z : Int) != 2047) = decide (rung b < 9218868437227405312) by
    unfold rung
    by_cases c : z = 2047
    · rw [decide_eq_false (by omega), c]
      rfl
    · rw [decide_eq_true (by omega), bne_iff_ne]
      omega)
  clear hq hz h
  go_enter Tryd.func16, Tryd.ntmps16
  go_wp2_with fail
  go_returns
  exact ⟨by rw [← HB.out]; rfl, rfl⟩
end Go.Proofs.YtifgealimgedpaaDoor.Flo
