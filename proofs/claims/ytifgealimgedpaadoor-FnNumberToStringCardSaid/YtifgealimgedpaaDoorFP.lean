/- Doubles that are told as a whole number. Plain laws. -/
import Derived.Test.YtifgealimgedpaaDoorFC
namespace Go.Proofs.YtifgealimgedpaaDoor.Nats
open Ieee Go.RowKit Go.Proofs.YtifgealimgedpaaDoor.Aid Go.Proofs.YtifgealimgedpaaDoor.Runes Go.Proofs.YtifgealimgedpaaDoor.Bytes Go.Proofs.YtifgealimgedpaaDoor.Flo
set_option linter.unusedVariables false
def e74 : Nat := 1074
theorem rung_rung (b : Nat) : rung (rung b) = rung b := by unfold rung; omega
theorem rung_bd (b : Nat) : rung b < 9223372036854775808 := by unfold rung; omega
theorem mant_rung (b : Nat) : mant (rung b) = mant b := by unfold mant; rw [rung_rung]
theorem place_rung (b : Nat) : place (rung b) = place b := by unfold place; rw [rung_rung]
theorem near_nat (N : Nat) (h : N < 9007199254740992) : double.nearest false N 0 < 9218868437227405312 ∧ ∃ d : Nat, place (double.nearest false N 0) = -(d : Int) ∧ mant (double.nearest false N 0) = N * 2 ^ d := by
  by_cases h0 : N = 0
  · subst h0
    have e : double.nearest false 0 0 = 0 := by decide
    rw [e]
    exact ⟨by omega, e74, by decide, by rw [Nat.zero_mul]; decide⟩
  · obtain ⟨e, hn⟩ := near_left N 0 (by omega) h (by omega) (by omega)
    have hw := W_lt hn
    have hd := W_div hn
    rw [e]
    refine ⟨hw, 52 - N.log2, ?_, ?_⟩
    · rw [place_pe hw]
      unfold pe
      rw [hd.1]
      have := hn.2.2.1
      omega
    · unfold mant
      rw [rung_small hw, if_neg (by unfold W; have := hn.1; omega), hd.2]
      have := hn.1
      omega
theorem near_sign (s : Bool) (F : Nat) (p : Int) : double.nearest s F p = double.word s (double.nearest false F p) := by
  have hc : ∀ n d, Toward.even.cut s n d = Toward.even.cut false n d := fun n d => by unfold Toward.cut; rfl
  have hw : ∀ z, double.word false z = z := fun z => by unfold Format.word; simp only [Bool.false_eq_true, if_false]
  unfold Format.nearest
  by_cases h : F = 0
  · simp only [if_pos h, hw]
  · simp only [if_neg h, hw, hc]
theorem word_sign {s : Bool} {x : Nat} (h : x < 9223372036854775808) : neg (double.word s x) = s ∧ rung (double.word s x) = x := by
  unfold Format.word neg rung
  rw [sign_is]
  cases s
  · simp only [Bool.false_eq_true, if_false]
    rw [show x / 9223372036854775808 = 0 by omega]
    exact ⟨rfl, by omega⟩
  · simp only [if_true]
    rw [show (9223372036854775808 + x) / 9223372036854775808 = 1 by omega]
    exact ⟨rfl, by omega⟩
theorem cmp_int {a b : Int} (h : compare a b = .eq) : a = b := by
  unfold compare at h
  simp only [instOrdInt] at h
  unfold compareOfLessAndEq at h
  split at h
  · cases h
  · split at h
    · assumption
    · cases h
theorem order_fin {x b : Nat} (hx : rung x < 9218868437227405312) (h : (FloatKind.f64.format.order x b == some Ordering.eq) = true) : rung b < 9218868437227405312 ∧ signed (neg x) (mant x) (place x - min (place x) (place b)).toNat = signed (neg b) (mant b) (place b - min (place x) (place b)).toNat := by
  rw [beq_iff_eq] at h
  change double.order x b = _ at h
  unfold Format.order at h
  rw [read_fin hx] at h
  by_cases hb : rung b < 9218868437227405312
  · rw [read_fin hb] at h
    unfold Datum.order at h
    simp only [Option.some.injEq] at h
    exact ⟨hb, cmp_int h⟩
  · exfalso
    unfold Format.read at h
    simp only [binade_is, sign_is, inf_is, least_is] at h
    unfold rung at hb
    rw [if_neg (by omega), if_neg (by omega)] at h
    by_cases c : b % 9223372036854775808 = 9218868437227405312
    · rw [if_pos c] at h
      generalize (b / 9223372036854775808 % 2 == 1) = s at h
      cases s <;> simp [Datum.order] at h
    · rw [if_neg c] at h
      simp [Datum.order] at h
theorem mant_dm (b : Nat) : mant b = dm (rung b) := by
  have := rung_bd b
  unfold mant dm
  split <;> split <;> omega
theorem place_dx (b : Nat) : place b = dx (rung b) := by
  have := rung_bd b
  unfold place dx fe
  split <;> omega
theorem mant_zero {b : Nat} (h : mant b = 0) : rung b = 0 := by unfold mant at h; split at h <;> omega
/-- The double is the whole number n. -/
def Told (b : Nat) (n : Int) : Prop := n.natAbs ≤ 2147483648 ∧ rung b < 9218868437227405312 ∧ ((n = 0 ∧ rung b = 0) ∨ (n ≠ 0 ∧ 0 < rung b ∧ neg b = decide (n < 0) ∧ exA (rung b) = n.natAbs * exB (rung b)))
theorem near_eq {n : Int} {b : Nat} (h1 : -2147483648 ≤ n) (h2 : n ≤ 2147483647) (h : (FloatKind.f64.format.order (floatOfInt .f64 n) b == some Ordering.eq) = true) : Told b n := by
  obtain ⟨hx, d, hp, hm⟩ := near_nat n.natAbs (by omega)
  have hf : floatOfInt .f64 n = double.word (decide (n < 0)) (double.nearest false n.natAbs 0) := by
    show double.write (.number (decide (n < 0)) n.natAbs 0) = _
    unfold Format.write
    exact near_sign _ _ _
  obtain ⟨x, hxe⟩ : ∃ x, x = double.nearest false n.natAbs 0 := ⟨_, rfl⟩
  rw [← hxe] at hx hp hm hf
  obtain ⟨w1, w2⟩ := word_sign (s := decide (n < 0)) (x := x) (by omega)
  rw [hf] at h
  obtain ⟨hb, hs⟩ := order_fin (by rw [w2]; exact hx) h
  rw [w1, ← mant_rung (double.word _ _), ← place_rung (double.word _ _), w2, hp, hm] at hs
  unfold signed at hs
  simp only [Nat.shiftLeft_eq] at hs
  obtain ⟨A, hA⟩ : ∃ A, A = n.natAbs * 2 ^ d * 2 ^ (-(d : Int) - min (-(d : Int)) (place b)).toNat := ⟨_, rfl⟩
  obtain ⟨B, hB⟩ : ∃ B, B = mant b * 2 ^ (place b - min (-(d : Int)) (place b)).toNat := ⟨_, rfl⟩
  rw [← hA, ← hB] at hs
  have hAB : A = B ∧ (A = 0 ∨ neg b = decide (n < 0)) := by
    cases hn : neg b <;> by_cases hc : n < 0 <;> simp [hn, hc] at hs <;> constructor <;> first | omega | (right; simp [hc]) | (left; omega)
  have p1 := Nat.two_pow_pos d
  have p2 := Nat.two_pow_pos (-(d : Int) - min (-(d : Int)) (place b)).toNat
  have p3 := Nat.two_pow_pos (place b - min (-(d : Int)) (place b)).toNat
  have hN : n.natAbs * 2 ^ (-place b).toNat = mant b * 2 ^ (place b).toNat := by
    have h := hAB.1
    rw [hA, hB] at h
    by_cases c : 0 ≤ place b
    · rw [show (-(d : Int) - min (-(d : Int)) (place b)).toNat = 0 by omega, show (place b - min (-(d : Int)) (place b)).toNat = (place b).toNat + d by omega, Nat.pow_zero, Nat.mul_one, Nat.pow_add, ← Nat.mul_assoc] at h
      rw [show (-place b).toNat = 0 by omega, Nat.pow_zero, Nat.mul_one]
      exact Nat.eq_of_mul_eq_mul_right p1 h
    · obtain ⟨q, hq⟩ : ∃ q : Nat, q = (-place b).toNat := ⟨_, rfl⟩
      obtain ⟨k, hk⟩ : ∃ k : Nat, k = (place b - min (-(d : Int)) (place b)).toNat := ⟨_, rfl⟩
      rw [← hk, Nat.mul_assoc, ← Nat.pow_add, show d + (-(d : Int) - min (-(d : Int)) (place b)).toNat = q + k by omega, Nat.pow_add, ← Nat.mul_assoc] at h
      rw [← hq, show (place b).toNat = 0 by omega, Nat.pow_zero, Nat.mul_one]
      exact Nat.eq_of_mul_eq_mul_right (Nat.two_pow_pos k) h
  refine ⟨by omega, hb, ?_⟩
  have q1 := Nat.two_pow_pos (-place b).toNat
  have q2 := Nat.two_pow_pos (place b).toNat
  by_cases hn : n = 0
  · refine .inl ⟨hn, mant_zero ?_⟩
    rw [show n.natAbs = 0 by omega, Nat.zero_mul] at hN
    rcases Nat.mul_eq_zero.1 hN.symm with q | q
    · exact q
    · omega
  · have hm0 : 0 < mant b := by
      rcases Nat.eq_zero_or_pos (mant b) with q | q
      · rw [q, Nat.zero_mul] at hN
        rcases Nat.mul_eq_zero.1 hN with q | q <;> omega
      · exact q
    refine .inr ⟨hn, ?_, ?_, ?_⟩
    · rcases Nat.eq_zero_or_pos (rung b) with q | q
      · unfold mant at hm0
        rw [q] at hm0
        simp at hm0
      · exact q
    · rcases hAB.2 with hz | hz
      · exfalso
        rw [hAB.1, hB] at hz
        rcases Nat.mul_eq_zero.1 hz with q | q <;> omega
      · exact hz
    · unfold exA exB
      rw [← mant_dm, ← place_dx]
      exact hN.symm
/-- Every number has one value. -/
theorem zero_word : double.read 0 = .number false 0 (-1074) := by decide
theorem ord_zero {b : Nat} (h : rung b < 9218868437227405312) : (FloatKind.f64.format.order b 0 == some Ordering.eq) = decide (rung b = 0) ∧ (FloatKind.f64.format.order b 0 == some Ordering.lt) = (neg b && decide (0 < rung b)) := by
  have e : FloatKind.f64.format.order b 0 = some (compare (signed (neg b) (mant b) (place b - min (place b) (-1074)).toNat) (signed false 0 ((-1074) - min (place b) (-1074)).toNat)) := by
    show double.order b 0 = _
    unfold Format.order
    rw [read_fin h, zero_word]
    rfl
  rw [e]
  unfold signed
  simp only [Nat.shiftLeft_eq, Nat.zero_mul]
  have p3 := Nat.two_pow_pos (place b - min (place b) (-1074)).toNat
  obtain ⟨B, hB⟩ : ∃ B, B = mant b * 2 ^ (place b - min (place b) (-1074)).toNat := ⟨_, rfl⟩
  rw [← hB]
  by_cases hm : mant b = 0
  · have h0 := mant_zero hm
    rw [h0]
    have : B = 0 := by rw [hB, hm, Nat.zero_mul]
    subst this
    cases neg b <;> decide
  · have hB0 : 0 < B := by rw [hB]; exact Nat.mul_pos (by omega) p3
    have hr : 0 < rung b := by
      rcases Nat.eq_zero_or_pos (rung b) with q | q
      · unfold mant at hm
        rw [q] at hm
        simp at hm
      · exact q
    rw [decide_eq_false (show ¬ rung b = 0 by omega), decide_eq_true hr]
    unfold compare
    simp only [instOrdInt]
    unfold compareOfLessAndEq
    cases neg b
    · simp only [Bool.false_eq_true, if_false]
      rw [if_neg (by omega), if_neg (by omega)]
      decide
    · simp only [if_true]
      rw [if_pos (by omega)]
      decide
end Go.Proofs.YtifgealimgedpaaDoor.Nats
