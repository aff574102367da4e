/- Whole parts of doubles, and their last 32 digits. Plain laws. -/
import Derived.Test.YtkhnkemmkedfcaaFloB
namespace Go.Proofs.Ytkhnkemmkedfcaa.Flo
open Ieee Go.RowKit Go.Proofs.Ytkhnkemmkedfcaa.Aid
set_option linter.unusedVariables false
/-- The whole part, the sign left out. -/
def tr (b : Nat) : Nat := if 0 ≤ place b then mant b * 2 ^ (place b).toNat else mant b / 2 ^ (-place b).toNat
/-- Its last 32 digits, with the sign, as the reference has them. -/
def U (b : Nat) : Nat := if neg b then (4294967296 - tr b % 4294967296) % 4294967296 else tr b % 4294967296
def t32 (b : Nat) : Int := if rung b < 9218868437227405312 then IntKind.i32.wrap (U b : Int) else 0
theorem rung_rung (b : Nat) : rung (rung b) = rung b := by unfold rung; omega
theorem rung_bd (b : Nat) : rung b < 9223372036854775808 := by unfold rung; omega
theorem mant_rung (b : Nat) : mant (rung b) = mant b := by unfold mant; rw [rung_rung]
theorem place_rung (b : Nat) : place (rung b) = place b := by unfold place; rw [rung_rung]
theorem tr_rung (b : Nat) : tr (rung b) = tr b := by unfold tr; rw [mant_rung, place_rung]
theorem tr_V {b : Nat} (h : b < 9218868437227405312) : tr b = V b / 2 ^ e74 := by
  have hp := place_pe h
  unfold tr V
  by_cases c : 0 ≤ place b
  · rw [if_pos c]
    have e : pe b = (place b).toNat + e74 := by unfold e74; omega
    rw [e, Nat.pow_add, ← Nat.mul_assoc, Nat.mul_div_cancel _ (Nat.two_pow_pos _)]
  · rw [if_neg c]
    have e : e74 = pe b + (-place b).toNat := by unfold e74; omega
    rw [e, Nat.pow_add, ← Nat.div_div_eq_div_mul, Nat.mul_div_cancel _ (Nat.two_pow_pos _)]
theorem top_is : top = 2 ^ 32 * 2 ^ e74 := by
  have h1 : (4503599627370496 : Nat) = 2 ^ 52 := by decide
  rw [← Nat.pow_add, ← e_is, Nat.pow_add, top, h1]
/-- What the remainder leaves is the last 32 digits. -/
theorem tr_cong {r b : Nat} (hr : r < 4751297606875873280) (hb : b < 9218868437227405312) (h : Cong r b) : tr r = tr b % 4294967296 := by
  have hv := V_mono hr (by omega)
  rw [V_top] at hv
  have h1 : V r = V b % top := by rw [← Nat.mod_eq_of_lt hv]; exact h
  rw [tr_V (by omega), tr_V hb, h1, top_is, Nat.mod_mul_left_div_self]
theorem cut_low (s : Bool) (n d : Nat) : Toward.zero.cut s n d = n / 2 ^ d := by
  unfold Toward.cut
  simp only [Nat.shiftLeft_eq, Nat.one_mul, Bool.toNat_false, Nat.add_zero]
  by_cases h : d ≤ n.log2 + 2
  · rw [Nat.min_eq_left h]
  · rw [Nat.min_eq_right (by omega)]
    have h1 : n < 2 ^ (n.log2 + 1) := Nat.lt_log2_self
    have h2 : 2 ^ (n.log2 + 1) ≤ 2 ^ (n.log2 + 2) := Nat.pow_le_pow_right (by omega) (by omega)
    have h3 : 2 ^ (n.log2 + 2) ≤ 2 ^ d := Nat.pow_le_pow_right (by omega) (by omega)
    rw [Nat.div_eq_of_lt (by omega), Nat.div_eq_of_lt (by omega)]
theorem toInt_pos {r : Nat} (h : r < 9218868437227405312) : (double.read r).toInt .zero = some (tr r : Int) := by
  rw [read_fin (by rw [rung_small h]; exact h), neg_small h]
  unfold Datum.toInt Datum.integral
  simp only [cut_low]
  unfold signed tr
  by_cases c : 0 ≤ place r
  · have e : (-place r).toNat = 0 := by omega
    simp [c, e, Nat.shiftLeft_eq]
  · have e : (place r).toNat = 0 := by omega
    simp [c, e]
theorem val_u32 {r : Nat} (h : r < 4751297606875873280) : floatToIntVal .f64 r .u32 = some (tr r : Int) := by
  have ht : tr r < 4294967296 := by
    have := tr_cong h (by omega) (show Cong r r from rfl)
    omega
  unfold floatToIntVal FloatKind.decode FloatKind.format
  rw [toInt_pos (by omega)]
  simp only
  rw [if_pos]
  exact ⟨by show (0 : Int) ≤ _; omega, by show _ ≤ (4294967295 : Int); omega⟩
/-- A whole number, written. -/
theorem near_nat (N : Nat) (h : N < 9007199254740992) : double.nearest false N 0 < 9218868437227405312 ∧ ∃ d : Nat, place (double.nearest false N 0) = -(d : Int) ∧ mant (double.nearest false N 0) = N * 2 ^ d := by
  by_cases h0 : N = 0
  · subst h0
    have e : double.nearest false 0 0 = 0 := by decide
    rw [e]
    exact ⟨by omega, e74, by decide, by rw [Nat.zero_mul]; decide⟩
  · obtain ⟨e, hn⟩ := near_left N 0 (by omega) h (by omega) (by omega)
    have hw := W_lt hn
    have hd := W_div hn
    rw [e]
    refine ⟨hw, 52 - N.log2, ?_, ?_⟩
    · rw [place_pe hw]
      unfold pe
      rw [hd.1]
      have := hn.2.2.1
      omega
    · unfold mant
      rw [rung_small hw, if_neg (by unfold W; have := hn.1; omega), hd.2]
      have := hn.1
      omega
theorem near_sign (s : Bool) (F : Nat) (p : Int) : double.nearest s F p = double.word s (double.nearest false F p) := by
  have hc : ∀ n d, Toward.even.cut s n d = Toward.even.cut false n d := fun n d => by unfold Toward.cut; rfl
  have hw : ∀ z, double.word false z = z := fun z => by unfold Format.word; simp only [Bool.false_eq_true, if_false]
  unfold Format.nearest
  by_cases h : F = 0
  · simp only [if_pos h, hw]
  · simp only [if_neg h, hw, hc]
theorem word_sign {s : Bool} {x : Nat} (h : x < 9223372036854775808) : neg (double.word s x) = s ∧ rung (double.word s x) = x := by
  unfold Format.word neg rung
  rw [sign_is]
  cases s
  · simp only [Bool.false_eq_true, if_false]
    rw [show x / 9223372036854775808 = 0 by omega]
    exact ⟨rfl, by omega⟩
  · simp only [if_true]
    rw [show (9223372036854775808 + x) / 9223372036854775808 = 1 by omega]
    exact ⟨rfl, by omega⟩
theorem cmp_int {a b : Int} (h : compare a b = .eq) : a = b := by
  unfold compare at h
  simp only [instOrdInt] at h
  unfold compareOfLessAndEq at h
  split at h
  · cases h
  · split at h
    · assumption
    · cases h
theorem order_fin {x b : Nat} (hx : rung x < 9218868437227405312) (h : (FloatKind.f64.format.order x b == some Ordering.eq) = true) : rung b < 9218868437227405312 ∧ signed (neg x) (mant x) (place x - min (place x) (place b)).toNat = signed (neg b) (mant b) (place b - min (place x) (place b)).toNat := by
  rw [beq_iff_eq] at h
  change double.order x b = _ at h
  unfold Format.order at h
  rw [read_fin hx] at h
  by_cases hb : rung b < 9218868437227405312
  · rw [read_fin hb] at h
    unfold Datum.order at h
    simp only [Option.some.injEq] at h
    exact ⟨hb, cmp_int h⟩
  · exfalso
    unfold Format.read at h
    simp only [binade_is, sign_is, inf_is, least_is] at h
    unfold rung at hb
    rw [if_neg (by omega), if_neg (by omega)] at h
    by_cases c : b % 9223372036854775808 = 9218868437227405312
    · rw [if_pos c] at h
      generalize (b / 9223372036854775808 % 2 == 1) = s at h
      cases s <;> simp [Datum.order] at h
    · rw [if_neg c] at h
      simp [Datum.order] at h
theorem tr_of {N d : Nat} {b : Nat} (h : N * 2 ^ d * 2 ^ (-(d : Int) - min (-(d : Int)) (place b)).toNat = mant b * 2 ^ (place b - min (-(d : Int)) (place b)).toNat) : tr b = N := by
  unfold tr
  by_cases c : 0 ≤ place b
  · rw [if_pos c]
    rw [show (-(d : Int) - min (-(d : Int)) (place b)).toNat = 0 by omega, show (place b - min (-(d : Int)) (place b)).toNat = (place b).toNat + d by omega, Nat.pow_zero, Nat.mul_one, Nat.pow_add, ← Nat.mul_assoc] at h
    exact (Nat.eq_of_mul_eq_mul_right (Nat.two_pow_pos d) h).symm
  · rw [if_neg c]
    obtain ⟨q, hq⟩ : ∃ q : Nat, q = (-place b).toNat := ⟨_, rfl⟩
    obtain ⟨k, hk⟩ : ∃ k : Nat, k = (place b - min (-(d : Int)) (place b)).toNat := ⟨_, rfl⟩
    rw [← hk, Nat.mul_assoc, ← Nat.pow_add, show d + (-(d : Int) - min (-(d : Int)) (place b)).toNat = q + k by omega, Nat.pow_add, ← Nat.mul_assoc] at h
    rw [← hq, ← Nat.eq_of_mul_eq_mul_right (Nat.two_pow_pos k) h, Nat.mul_div_cancel _ (Nat.two_pow_pos q)]
/-- The first road: an int32 that is the same number. -/
theorem near_eq {n : Int} {b : Nat} (h1 : -2147483648 ≤ n) (h2 : n ≤ 2147483647) (h : (FloatKind.f64.format.order (floatOfInt .f64 n) b == some Ordering.eq) = true) : t32 b = n := by
  obtain ⟨hx, d, hp, hm⟩ := near_nat n.natAbs (by omega)
  have hf : floatOfInt .f64 n = double.word (decide (n < 0)) (double.nearest false n.natAbs 0) := by
    show double.write (.number (decide (n < 0)) n.natAbs 0) = _
    unfold Format.write
    exact near_sign _ _ _
  obtain ⟨x, hxe⟩ : ∃ x, x = double.nearest false n.natAbs 0 := ⟨_, rfl⟩
  rw [← hxe] at hx hp hm hf
  obtain ⟨w1, w2⟩ := word_sign (s := decide (n < 0)) (x := x) (by omega)
  rw [hf] at h
  obtain ⟨hb, hs⟩ := order_fin (by rw [w2]; exact hx) h
  rw [w1, ← mant_rung (double.word _ _), ← place_rung (double.word _ _), w2, hp, hm] at hs
  unfold signed at hs
  simp only [Nat.shiftLeft_eq] at hs
  obtain ⟨A, hA⟩ : ∃ A, A = n.natAbs * 2 ^ d * 2 ^ (-(d : Int) - min (-(d : Int)) (place b)).toNat := ⟨_, rfl⟩
  obtain ⟨B, hB⟩ : ∃ B, B = mant b * 2 ^ (place b - min (-(d : Int)) (place b)).toNat := ⟨_, rfl⟩
  rw [← hA, ← hB] at hs
  have hAB : A = B ∧ (A = 0 ∨ neg b = decide (n < 0)) := by
    cases hn : neg b <;> by_cases hc : n < 0 <;> simp [hn, hc] at hs <;> constructor <;> first | omega | (right; simp [hc]) | (left; omega)
  have ht : tr b = n.natAbs := tr_of (by rw [← hA, ← hB]; exact hAB.1)
  unfold t32
  rw [if_pos hb, IntKind.wrap_i32]
  unfold U
  rw [ht]
  rcases hAB.2 with hz | hz
  · have hz' : n.natAbs = 0 := by
      rw [hA] at hz
      have p1 := Nat.two_pow_pos d
      have p2 := Nat.two_pow_pos (-(d : Int) - min (-(d : Int)) (place b)).toNat
      rcases Nat.mul_eq_zero.1 hz with q | q
      · rcases Nat.mul_eq_zero.1 q with q | q
        · exact q
        · omega
      · omega
    rw [hz']
    split <;> omega
  · rw [hz]
    by_cases hc : n < 0
    · rw [decide_eq_true hc, if_pos rfl]
      omega
    · rw [decide_eq_false hc, if_neg (by decide)]
      omega
end Go.Proofs.Ytkhnkemmkedfcaa.Flo
