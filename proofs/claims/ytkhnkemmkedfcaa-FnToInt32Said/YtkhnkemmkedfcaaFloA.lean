/- Go's math: the small functions over doubles. The walks. -/
import Derived.Test.YtkhnkemmkedfcaaFlo
import Derived.Test.YtkhnkemmkedfcaaRuneW
import Derived.WalkLawsBesides
import Derived.Laws.BitsAllLaws
import Derived.Laws.Externs
namespace Go.Proofs.Ytkhnkemmkedfcaa.Flo
open Ieee Go.RowKit Go.Proofs.Ytkhnkemmkedfcaa.Aid
attribute [local go_sem ↓] Go.wp_at_zero Go.wp_at_succ
set_option linter.unusedVariables false
/-- The greatest word of a number, and one more. -/
def inf : Nat := 9218868437227405312
theorem ord_self {b : Nat} (h : rung b < 9218868437227405312) : (FloatKind.f64.format.order b b != some Ordering.eq) = false := by
  show (Format.order Ieee.double b b != some Ordering.eq) = false
  unfold Format.order
  rw [read_fin h]
  unfold Datum.order
  simp only [Int.min_self, Int.sub_self]
  obtain ⟨z, hz⟩ : ∃ z : Int, z = signed (neg b) (mant b) (0 : Int).toNat := ⟨_, rfl⟩
  rw [← hz]
  have : compare z z = .eq := by unfold compare; simp only [instOrdInt]; unfold compareOfLessAndEq; rw [if_neg (Int.lt_irrefl _), if_pos rfl]
  rw [this]
  rfl
theorem isNaN (b : Nat) (w : World) (h : rung b < 9218868437227405312) : Calls Try.prog 36 #[.float .f64 b] w fun e w' => e = .returned (.bool false) ∧ w' = w := by
  have HB := Lib.hid (ord_self h)
  clear h
  go_enter Try.func36, Try.ntmps36
  go_wp2_with fail
  go_returns
  exact ⟨by rw [HB.out]; rfl, rfl⟩
theorem callBits (b : Nat) (w : World) : (callFunc 66 #[.float .f64 b]).run Try.prog w = .ok (.value (.int .u64 b)) w := by
  rw [run_callFunc_extern Try.func66 (by kernel_rfl) (by kernel_rfl) (by kernel_rfl) (e := Extern.MathFloatBits.float64bits) (by kernel_rfl)]
  rfl
theorem callFrom (n : Nat) (w : World) : (callFunc 65 #[.int .u64 n]).run Try.prog w = .ok (.value (.float .f64 n)) w := by
  rw [run_callFunc_extern Try.func65 (by kernel_rfl) (by kernel_rfl) (by kernel_rfl) (e := Extern.MathFloatBits.float64frombits) (by kernel_rfl)]
  rfl
theorem an63 (b : Nat) (h : b < 18446744073709551616) : bits .andNot .u64 (b : Int) 9223372036854775808 = ((rung b : Nat) : Int) := by
  have h1 := u64_andNot_nat b 9223372036854775808 h (by omega)
  rw [show ((9223372036854775808 : Nat) : Int) = 9223372036854775808 from rfl] at h1
  rw [h1, show 18446744073709551615 - 9223372036854775808 = 2 ^ 63 - 1 by decide, Nat.and_two_pow_sub_one_eq_mod]
  rfl
theorem anExp (x : Nat) (h : x < 9223372036854775808) : bits .andNot .u64 (x : Int) 9218868437227405312 = ((x % 4503599627370496 : Nat) : Int) := by
  have h1 := u64_andNot_nat x 9218868437227405312 (by omega) (by omega)
  rw [show ((9218868437227405312 : Nat) : Int) = 9218868437227405312 from rfl] at h1
  rw [h1]
  have e : 18446744073709551615 - 9218868437227405312 = (2 ^ 52 - 1) ||| 2 ^ 63 := by decide
  have e2 : x &&& 2 ^ 63 = 0 := by
    apply Nat.eq_of_testBit_eq
    intro i
    rw [Nat.testBit_and, Nat.testBit_two_pow, Nat.zero_testBit]
    by_cases hi : 63 = i
    · subst hi
      rw [Nat.testBit_lt_two_pow (by omega)]
      rfl
    · simp [hi]
  rw [e, Nat.and_or_distrib_left, e2, Nat.or_zero, Nat.and_two_pow_sub_one_eq_mod]
theorem orExp (F c : Nat) (hF : F < 4503599627370496) (hc : c < 2048) : bits .or .u64 (F : Int) ((c * 4503599627370496 : Nat) : Int) = ((c * 4503599627370496 + F : Nat) : Int) := by
  rw [u64_or_nat F (c * 4503599627370496) (by omega) (by omega)]
  congr 1
  have := Nat.shiftLeft_add_eq_or_of_lt (i := 52) (b := F) (by omega) c
  rw [Nat.shiftLeft_eq] at this
  rw [Nat.or_comm, ← this]
theorem and2047 (x : Nat) (h : x < 18446744073709551616) : bits .and .u64 (x : Int) 2047 = ((x % 2048 : Nat) : Int) := by
  have h1 := u64_and_nat x 2047 h (by omega)
  rw [show ((2047 : Nat) : Int) = 2047 from rfl] at h1
  rw [h1, show 2047 = 2 ^ 11 - 1 by decide, Nat.and_two_pow_sub_one_eq_mod]
set_option maxRecDepth 100000 in
theorem abs (b : Nat) (w : World) (h : b < 18446744073709551616) : Calls Try.prog 39 #[.float .f64 b] w fun e w' => e = .returned (.float .f64 (rung b)) ∧ w' = w := by
  have hb := callBits
  have hf := callFrom
  have ha := an63 b h
  go_enter Try.func39, Try.ntmps39
  go_wp2_with fail
  go_returns
  exact ⟨rfl, rfl⟩
set_option maxRecDepth 100000 in
theorem isInf (b : Nat) (w : World) (h : b < 18446744073709551616) (hf : rung b < 9218868437227405312) : Calls Try.prog 37 #[.float .f64 b, .int .i64 0] w fun e w' => e = .returned (.bool false) ∧ w' = w := by
  have HA := Lib.hid (abs b w h)
  have HG := Lib.hid (show (FloatKind.f64.format.order (rung b) 9218868437227405311 == some Ordering.gt) = false by
    rw [fgt hf (by omega)]
    exact decide_eq_false (by omega))
  clear h hf
  go_enter Try.func37, Try.ntmps37
  go_wp2_with fail
  refine HA.out.mono ?_
  rintro e w' ⟨rfl, rfl⟩
  go_wp2_with fail
  go_returns
  exact ⟨by rw [HG.out]; rfl, rfl⟩
set_option maxRecDepth 100000 in
theorem normalize (x : Nat) (w : World) (h1 : 4503599627370496 ≤ x) (h2 : x < 9218868437227405312) : Calls Try.prog 110 #[.float .f64 x] w fun e w' => e = .returned (.tuple #[.float .f64 x, .int .i64 0]) ∧ w' = w := by
  have HA := Lib.hid (abs x w (by omega))
  rw [rung_small h2] at HA
  have hg : (FloatKind.f64.format.order x 4503599627370496 == some Ordering.lt) = false := by
    rw [flt h2 (by omega)]
    exact decide_eq_false (by omega)
  clear h1 h2
  go_enter Try.func110, Try.ntmps110
  go_wp2_with fail
  refine HA.out.mono ?_
  rintro e w' ⟨rfl, rfl⟩
  go_wp2_with fail
  go_returns
  exact ⟨rfl, rfl⟩
set_option maxRecDepth 100000 in
set_option maxHeartbeats 1000000 in
theorem frexp (K : Nat) (p : Int) (w : World) (h : Nrm K p) : Calls Try.prog 103 #[.float .f64 (W K p)] w fun e w' => e = .returned (.tuple #[.float .f64 (W K (-53)), .int .i64 (p + 53)]) ∧ w' = w := by
  have hl := W_lt h
  have hd := W_div h
  have hge : 4503599627370496 ≤ W K p := by unfold W; have := h.1; omega
  have hp1 := h.2.2.1
  have hp2 := h.2.2.2
  have hk1 := h.1
  have hk2 := h.2.1
  have hb := callBits
  have hfr := callFrom
  have HI := Lib.hid (isInf (W K p) w (by omega) (by rw [rung_small hl]; exact hl))
  have HN := Lib.hid (isNaN (W K p) w (by rw [rung_small hl]; exact hl))
  have HZ := Lib.hid (normalize (W K p) w hge hl)
  have h0 : (FloatKind.f64.format.order (W K p) 0 == some Ordering.eq) = false := by
    rw [feq hl (by omega)]
    exact decide_eq_false (by omega)
  obtain ⟨x, hx⟩ : ∃ x, x = W K p := ⟨_, rfl⟩
  obtain ⟨q, hq⟩ : ∃ q : Nat, q = (p + 1074).toNat + 1 := ⟨_, rfl⟩
  obtain ⟨F, hF⟩ : ∃ F : Nat, F = K - 4503599627370496 := ⟨_, rfl⟩
  rw [← hx] at hl hd HI HN HZ h0
  rw [← hq, ← hF] at hd
  have e1 : (x : Int) / 4503599627370496 = (q : Int) := by omega
  have e2 : bits .and .u64 (q : Int) 2047 = (q : Int) := by rw [and2047 q (by omega)]; omega
  have e3 : bits .andNot .u64 (x : Int) 9218868437227405312 = (F : Int) := by rw [anExp x (by omega), hd.2]
  obtain ⟨Z, hZ⟩ : ∃ Z : Nat, Z = 1022 * 4503599627370496 + F := ⟨_, rfl⟩
  have e4 : bits .or .u64 (F : Int) 4602678819172646912 = (Z : Int) := by
    have := orExp F 1022 (by omega) (by omega)
    rw [show ((1022 * 4503599627370496 : Nat) : Int) = 4602678819172646912 from rfl] at this
    rw [this, hZ]
  have hzw : W K (-53) = Z := by unfold W; rw [hZ]; omega
  have hqp : (q : Int) - 1023 + 1 = p + 53 := by omega
  have q1 : q ≤ 2046 := by omega
  have HQP := Lib.hid hqp
  rw [← hx, hzw]
  clear hx hq hF hZ hzw hqp hd hge h hl hk1 hk2
  go_enter Try.func103, Try.ntmps103
  go_wp2_with fail
  refine HI.out.mono ?_
  rintro e w' ⟨rfl, rfl⟩
  go_wp2_with fail
  refine HN.out.mono ?_
  rintro e w' ⟨rfl, rfl⟩
  go_wp2_with fail
  refine HZ.out.mono ?_
  rintro e w' ⟨rfl, rfl⟩
  go_wp2_with fail
  go_returns
  exact ⟨by rw [← HQP.out]; simp, rfl⟩
set_option maxRecDepth 100000 in
set_option maxHeartbeats 2000000 in
/-- A number times a power of two, within what a double holds. -/
theorem ldexp (K : Nat) (p e : Int) (w : World) (h : Nrm K p) (h2 : Nrm K (p + e)) : Calls Try.prog 105 #[.float .f64 (W K p), .int .i64 e] w fun en w' => en = .returned (.float .f64 (W K (p + e))) ∧ w' = w := by
  have hl := W_lt h
  have hd := W_div h
  have hge : 4503599627370496 ≤ W K p := by unfold W; have := h.1; omega
  have hp1 := h.2.2.1
  have hp2 := h.2.2.2
  have he1 := h2.2.2.1
  have he2 := h2.2.2.2
  have hk1 := h.1
  have hk2 := h.2.1
  have hb := callBits
  have hfr := callFrom
  have HI := Lib.hid (isInf (W K p) w (by omega) (by rw [rung_small hl]; exact hl))
  have HN := Lib.hid (isNaN (W K p) w (by rw [rung_small hl]; exact hl))
  have HZ := Lib.hid (normalize (W K p) w hge hl)
  have h0 : (FloatKind.f64.format.order (W K p) 0 == some Ordering.eq) = false := by
    rw [feq hl (by omega)]
    exact decide_eq_false (by omega)
  have hm : FloatKind.f64.format.mul 4607182418800017408 (W K (p + e)) = some (W K (p + e)) := mul_one' h2
  obtain ⟨Y, hY⟩ : ∃ Y, Y = W K (p + e) := ⟨_, rfl⟩
  obtain ⟨x, hx⟩ : ∃ x, x = W K p := ⟨_, rfl⟩
  obtain ⟨q, hq⟩ : ∃ q : Nat, q = (p + 1074).toNat + 1 := ⟨_, rfl⟩
  obtain ⟨F, hF⟩ : ∃ F : Nat, F = K - 4503599627370496 := ⟨_, rfl⟩
  obtain ⟨c, hc⟩ : ∃ c : Nat, c = (p + e + 1074).toNat + 1 := ⟨_, rfl⟩
  rw [← hx] at hl hd HI HN HZ h0
  rw [← hq, ← hF] at hd
  have e1 : (x : Int) / 4503599627370496 = (q : Int) := by omega
  have q1 : q ≤ 2046 := by omega
  have c1 : c ≤ 2046 := by omega
  have c0 : 1 ≤ c := by omega
  have wq : IntKind.i64.wrap (q : Int) = q := IntWalk.i64_in _ (by omega)
  have e2 : bits .and .i64 (q : Int) 2047 = (q : Int) := by
    have := Go.bits_mask .i64 63 (by decide) (fun n h0 h1 => by rw [IntKind.wrap_i64]; omega) 11 (by decide) (q : Int) (by omega) (by omega)
    rw [show ((2 : Int) ^ 11 - 1) = 2047 from rfl] at this
    rw [this]
    omega
  have e3 : bits .andNot .u64 (x : Int) 9218868437227405312 = (F : Int) := by rw [anExp x (by omega), hd.2]
  have e5 : e + ((q : Int) - 1023) = (c : Int) - 1023 := by omega
  have e6 : (c : Int) - 1023 + 1023 = (c : Int) := by omega
  have t1 : ¬ (c : Int) - 1023 < -1075 := by omega
  have t2 : ¬ (1023 : Int) < (c : Int) - 1023 := by omega
  have t3 : ¬ (c : Int) - 1023 < -1022 := by omega
  have eb : -10000 ≤ e := by omega
  have eb2 : e ≤ 10000 := by omega
  have e4 : bits .or .u64 (F : Int) ((c : Int) * 4503599627370496) = (Y : Int) := by
    rw [show (c : Int) * 4503599627370496 = ((c * 4503599627370496 : Nat) : Int) by omega, orExp F c (by omega) (by omega), hY]
    unfold W
    omega
  rw [← hY] at hm ⊢
  rw [← hx]
  have hmul : ∀ w, (binOp .mul 30 (.float .f64 4607182418800017408) (.float .f64 Y)).run Try.prog w = .ok (.float .f64 Y) w := fun w => run_float_arith w .mul 30 .f64 _ _ Y hm
  clear hm
  clear hx hq hF hc hY hd hge h h2 hl hk1 hk2 hp1 hp2 he1 he2
  go_enter Try.func105, Try.ntmps105
  go_wp2_with fail
  refine HI.out.mono ?_
  rintro e w' ⟨rfl, rfl⟩
  go_wp2_with fail
  refine HN.out.mono ?_
  rintro e w' ⟨rfl, rfl⟩
  go_wp2_with fail
  refine HZ.out.mono ?_
  rintro e w' ⟨rfl, rfl⟩
  go_wp2_with fail
  go_returns
  exact ⟨rfl, rfl⟩
end Go.Proofs.Ytkhnkemmkedfcaa.Flo
