/- Doubles: words and what they stand for, written and read without rounding. Plain laws over the model's own arithmetic; no program in sight. -/
import Derived.Below
import Derived.Laws.FloatArith
namespace Go.Proofs.YtifgealimgedpaaDoor.Flo
open Ieee
set_option linter.unusedVariables false
theorem binade_is : double.binade = 4503599627370496 := by decide
theorem sign_is : double.signWeight = 9223372036854775808 := by decide
theorem inf_is : double.infRung = 9218868437227405312 := by decide
theorem least_is : double.leastPlace = -1074 := by decide
/-- The word of a positive number of 53 digits. -/
def W (K : Nat) (p : Int) : Nat := (p + 1074).toNat * 4503599627370496 + K
/-- It is one. -/
def Nrm (K : Nat) (p : Int) : Prop := 4503599627370496 ≤ K ∧ K < 9007199254740992 ∧ -1074 ≤ p ∧ p ≤ 971
theorem W_lt {K : Nat} {p : Int} (h : Nrm K p) : W K p < 9218868437227405312 := by
  obtain ⟨h1, h2, h3, h4⟩ := h
  unfold W
  have : (p + 1074).toNat ≤ 2045 := by omega
  omega
theorem W_div {K : Nat} {p : Int} (h : Nrm K p) : W K p / 4503599627370496 = (p + 1074).toNat + 1 ∧ W K p % 4503599627370496 = K - 4503599627370496 := by
  obtain ⟨h1, h2, h3, h4⟩ := h
  unfold W
  omega
theorem read_W {K : Nat} {p : Int} (h : Nrm K p) : double.read (W K p) = .number false K p := by
  have hl := W_lt h
  have hd := W_div h
  obtain ⟨h1, h2, h3, h4⟩ := h
  unfold Format.read
  simp only [binade_is, sign_is, inf_is, least_is]
  have e1 : W K p / 9223372036854775808 = 0 := by omega
  have e2 : W K p % 9223372036854775808 = W K p := by omega
  rw [e1, e2, hd.1, hd.2]
  have e3 : ¬ W K p < 4503599627370496 := by unfold W; omega
  rw [if_neg e3, if_pos hl]
  simp only [Datum.number.injEq]
  refine ⟨by decide, by omega, by omega⟩
theorem cut_zero (neg : Bool) (n : Nat) : Toward.even.cut neg n 0 = n := by
  unfold Toward.cut
  simp [Nat.mod_one]
/-- A number of at most 53 digits, written. -/
theorem near_left (F : Nat) (p : Int) (h0 : 0 < F) (h1 : F < 9007199254740992) (hp : -1022 ≤ p) (hp2 : p ≤ 971) :
    double.nearest false F p = W (F * 2 ^ (52 - F.log2)) (p - ((52 - F.log2 : Nat) : Int)) ∧ Nrm (F * 2 ^ (52 - F.log2)) (p - ((52 - F.log2 : Nat) : Int)) := by
  have hL : F.log2 ≤ 52 := by
    have := (Nat.log2_lt (n := F) (k := 53) (by omega)).2 (by simpa using h1)
    omega
  have hlo : 2 ^ F.log2 ≤ F := Nat.log2_self_le (by omega)
  have hhi : F < 2 ^ (F.log2 + 1) := Nat.lt_log2_self
  obtain ⟨L, hLe⟩ : ∃ L, L = F.log2 := ⟨_, rfl⟩
  rw [← hLe] at hL hlo hhi ⊢
  have hpw : 2 ^ L * 2 ^ (52 - L) = 4503599627370496 := by
    rw [← Nat.pow_add, show L + (52 - L) = 52 by omega]
  have k1 : 4503599627370496 ≤ F * 2 ^ (52 - L) := by
    rw [← hpw]
    exact Nat.mul_le_mul_right _ hlo
  have k2 : F * 2 ^ (52 - L) < 9007199254740992 := by
    have h2 : 2 ^ (L + 1) * 2 ^ (52 - L) = 9007199254740992 := by
      rw [← Nat.pow_add, show L + 1 + (52 - L) = 53 by omega]
    rw [← h2]
    exact Nat.mul_lt_mul_of_pos_right hhi (Nat.two_pow_pos _)
  refine ⟨?_, k1, k2, by omega, by omega⟩
  unfold Format.nearest
  rw [if_neg (by omega), ← hLe, least_is]
  have hf : (double.fractionBits : Int) = 52 := rfl
  rw [hf]
  have hlast : max (p + (L : Int) - 52) (-1074) = p - ((52 - L : Nat) : Int) := by omega
  simp only [hlast]
  rw [show (p - (p - ((52 - L : Nat) : Int))).toNat = 52 - L by omega, show (p - ((52 - L : Nat) : Int) - p).toNat = 0 by omega, cut_zero, binade_is, inf_is, Nat.shiftLeft_eq]
  unfold Format.word
  rw [show p - ((52 - L : Nat) : Int) - -1074 = p - ((52 - L : Nat) : Int) + 1074 by omega]
  have hw : (p - ((52 - L : Nat) : Int) + 1074).toNat * 4503599627370496 + F * 2 ^ (52 - L) ≤ 9218868437227405312 := by
    have : (p - ((52 - L : Nat) : Int) + 1074).toNat ≤ 2045 := by omega
    omega
  rw [Nat.min_eq_left hw]
  rfl
/-- A product by a power of two, written. -/
theorem near_right (K : Nat) (p : Int) (h1 : 4503599627370496 ≤ K) (h2 : K < 9007199254740992) (hp : -1074 ≤ p + 52) (hp2 : p + 52 ≤ 971) :
    double.nearest false (4503599627370496 * K) p = W K (p + 52) := by
  have hlog : (4503599627370496 * K).log2 = 104 := by
    have a : 104 ≤ (4503599627370496 * K).log2 := (Nat.le_log2 (by omega)).2 (by
      rw [show (2 : Nat) ^ 104 = 4503599627370496 * 4503599627370496 by decide]
      exact Nat.mul_le_mul_left _ h1)
    have b : (4503599627370496 * K).log2 < 105 := (Nat.log2_lt (by omega)).2 (by
      rw [show (2 : Nat) ^ 105 = 4503599627370496 * 9007199254740992 by decide]
      exact Nat.mul_lt_mul_of_pos_left h2 (by omega))
    omega
  unfold Format.nearest
  rw [if_neg (by omega), hlog, least_is]
  have hf : (double.fractionBits : Int) = 52 := rfl
  rw [hf]
  have hlast : max (p + ((104 : Nat) : Int) - 52) (-1074) = p + 52 := by omega
  simp only [hlast]
  rw [show (p - (p + 52)).toNat = 0 by omega, show (p + 52 - p).toNat = 52 by omega, Nat.shiftLeft_zero]
  have hcut : Toward.even.cut false (4503599627370496 * K) 52 = K := by
    unfold Toward.cut
    rw [hlog]
    have hm : min 52 (104 + 2) = 52 := rfl
    simp only [hm]
    rw [show (1 <<< 52 : Nat) = 4503599627370496 by decide, Nat.mul_mod_right, Nat.mul_div_cancel_left _ (by omega)]
    simp
  rw [hcut, binade_is, inf_is]
  unfold Format.word
  rw [show p + 52 - -1074 = p + 52 + 1074 by omega]
  have hw : (p + 52 + 1074).toNat * 4503599627370496 + K ≤ 9218868437227405312 := by
    have : (p + 52 + 1074).toNat ≤ 2045 := by omega
    omega
  rw [Nat.min_eq_left hw]
  rfl
/-- The parts of a word: its sign, its digits, their place. -/
def neg (b : Nat) : Bool := b / 9223372036854775808 % 2 == 1
def rung (b : Nat) : Nat := b % 9223372036854775808
def mant (b : Nat) : Nat := if rung b < 4503599627370496 then rung b else 4503599627370496 + rung b % 4503599627370496
def place (b : Nat) : Int := if rung b < 4503599627370496 then -1074 else -1074 + (rung b / 4503599627370496 - 1 : Nat)
theorem read_fin {b : Nat} (h : rung b < 9218868437227405312) : double.read b = .number (neg b) (mant b) (place b) := by
  unfold Format.read
  simp only [binade_is, sign_is, inf_is, least_is]
  unfold neg mant place rung at *
  by_cases c : b % 9223372036854775808 < 4503599627370496
  · rw [if_pos c, if_pos c, if_pos c]
  · rw [if_neg c, if_pos h, if_neg c, if_neg c]
theorem mant_lt (b : Nat) : mant b < 9007199254740992 := by unfold mant; split <;> omega
theorem place_bd {b : Nat} (h : rung b < 9218868437227405312) : -1074 ≤ place b ∧ place b ≤ 971 := by unfold place; split <;> omega
/-- A positive word is what it stands for. -/
theorem W_of {b : Nat} (h : rung b < 9218868437227405312) (hn : 4503599627370496 ≤ rung b) : rung b = W (mant b) (place b) ∧ Nrm (mant b) (place b) := by
  have h1 : ¬ rung b < 4503599627370496 := by omega
  have hm : mant b = 4503599627370496 + rung b % 4503599627370496 := by rw [mant, if_neg h1]
  have hp : place b = -1074 + (rung b / 4503599627370496 - 1 : Nat) := by rw [place, if_neg h1]
  have hb := place_bd h
  refine ⟨?_, by omega, mant_lt b, hb.1, hb.2⟩
  unfold W
  rw [hm, hp]
  omega
/-- Comparing positive numbers. -/
theorem order_pos (m n : Nat) (i j : Int) : Datum.order (.number false m i) (.number false n j) = some (compare ((m * 2 ^ (i - min i j).toNat : Nat) : Int) ((n * 2 ^ (j - min i j).toNat : Nat) : Int)) := by
  unfold Datum.order signed
  simp only [Bool.false_eq_true, if_false, Nat.shiftLeft_eq]
theorem cmp_cases (a b : Nat) : (a < b ∧ compare (a : Int) (b : Int) = .lt) ∨ (a = b ∧ compare (a : Int) (b : Int) = .eq) ∨ (b < a ∧ compare (a : Int) (b : Int) = .gt) := by
  rcases Nat.lt_trichotomy a b with h | h | h
  · have h' : (a : Int) < b := by omega
    exact .inl ⟨h, by unfold compare; simp only [instOrdInt]; unfold compareOfLessAndEq; rw [if_pos h']⟩
  · subst h
    exact .inr (.inl ⟨rfl, by unfold compare; simp only [instOrdInt]; unfold compareOfLessAndEq; rw [if_neg (Int.lt_irrefl _), if_pos rfl]⟩)
  · have h1 : ¬ (a : Int) < b := by omega
    have h2 : ¬ (a : Int) = b := by omega
    exact .inr (.inr ⟨h, by unfold compare; simp only [instOrdInt]; unfold compareOfLessAndEq; rw [if_neg h1, if_neg h2]⟩)
theorem cmp_lt (a b : Nat) : (some (compare (a : Int) (b : Int)) == some Ordering.lt) = decide (a < b) := by
  rcases cmp_cases a b with ⟨h, e⟩ | ⟨h, e⟩ | ⟨h, e⟩ <;> rw [e]
  · rw [decide_eq_true h]; rfl
  · rw [decide_eq_false (by omega)]; rfl
  · rw [decide_eq_false (by omega)]; rfl
theorem cmp_gt (a b : Nat) : (some (compare (a : Int) (b : Int)) == some Ordering.gt) = decide (b < a) := by
  rcases cmp_cases a b with ⟨h, e⟩ | ⟨h, e⟩ | ⟨h, e⟩ <;> rw [e]
  · rw [decide_eq_false (by omega)]; rfl
  · rw [decide_eq_false (by omega)]; rfl
  · rw [decide_eq_true h]; rfl
theorem cmp_eq (a b : Nat) : (some (compare (a : Int) (b : Int)) == some Ordering.eq) = decide (a = b) := by
  rcases cmp_cases a b with ⟨h, e⟩ | ⟨h, e⟩ | ⟨h, e⟩ <;> rw [e]
  · rw [decide_eq_false (by omega)]; rfl
  · rw [decide_eq_true h]; rfl
  · rw [decide_eq_false (by omega)]; rfl
/-- A number without its first digit. -/
theorem sub_top {K : Nat} {p : Int} (h : Nrm K p) (hp : -1022 ≤ p) : double.sub (W K p) (W 4503599627370496 p) = some (if K = 4503599627370496 then 0 else W ((K - 4503599627370496) * 2 ^ (52 - (K - 4503599627370496).log2)) (p - ((52 - (K - 4503599627370496).log2 : Nat) : Int))) := by
  have h2 : Nrm 4503599627370496 p := ⟨by omega, by omega, h.2.2.1, h.2.2.2⟩
  unfold Format.sub
  rw [read_W h, read_W h2]
  unfold Datum.opposite Datum.sum signed
  have hk := h.1
  simp only [Int.min_self, Int.sub_self, Int.toNat_zero, Nat.shiftLeft_zero, Bool.false_eq_true, if_false, Bool.not_false, if_true, Option.map_some]
  have ht : (K : Int) + -((4503599627370496 : Nat) : Int) = ((K - 4503599627370496 : Nat) : Int) := by omega
  rw [ht]
  by_cases hz : K = 4503599627370496
  · subst hz
    simp [Format.write, Format.nearest, Format.word]
  · rw [if_neg hz]
    obtain ⟨F, hF⟩ : ∃ F, F = K - 4503599627370496 := ⟨_, rfl⟩
    rw [← hF]
    have h0 : 0 < F := by omega
    rw [if_neg (by omega : ¬ ((F : Int) = 0))]
    have hd : (decide ((F : Int) < 0)) = false := by simp
    simp only [Int.natAbs_natCast, hd]
    unfold Format.write
    simp only
    rw [(near_left F p h0 (by have := h.2.1; omega) hp h.2.2.2).1]
/-- One times a number. -/
theorem mul_one' {K : Nat} {p : Int} (h : Nrm K p) : double.mul (W 4503599627370496 (-52)) (W K p) = some (W K p) := by
  have h2 : Nrm 4503599627370496 (-52) := ⟨by omega, by omega, by omega, by omega⟩
  unfold Format.mul
  rw [read_W h, read_W h2]
  unfold Datum.product
  simp only [Option.map_some, Bool.false_bne]
  unfold Format.write
  simp only
  rw [near_right K (-52 + p) h.1 h.2.1 (by have := h.2.2.1; omega) (by have := h.2.2.2; omega)]
  rw [show -52 + p + 52 = p by omega]
/-- The words of numbers that are not below 0 stand in the order of the numbers. -/
def pe (b : Nat) : Nat := b / 4503599627370496 - 1
def V (b : Nat) : Nat := mant b * 2 ^ pe b
theorem rung_small {b : Nat} (h : b < 9218868437227405312) : rung b = b := by unfold rung; omega
theorem place_pe {b : Nat} (h : b < 9218868437227405312) : place b = -1074 + (pe b : Int) := by
  unfold place pe
  rw [rung_small h]
  split
  · omega
  · rfl
theorem V_mono {x y : Nat} (h : x < y) (hy : y < 9218868437227405312) : V x < V y := by
  have hx : x < 9218868437227405312 := by omega
  by_cases he : x / 4503599627370496 = y / 4503599627370496
  · have hp : pe x = pe y := by unfold pe; rw [he]
    unfold V
    rw [hp]
    refine Nat.mul_lt_mul_of_pos_right ?_ (Nat.two_pow_pos _)
    unfold mant
    rw [rung_small hx, rung_small hy]
    split <;> split <;> omega
  · have hlt : x / 4503599627370496 < y / 4503599627370496 := by omega
    have hy1 : 4503599627370496 ≤ mant y := by
      unfold mant
      rw [rung_small hy]
      split <;> omega
    by_cases h0 : x / 4503599627370496 = 0
    · have hx1 : mant x < 4503599627370496 := by
        unfold mant
        rw [rung_small hx]
        split <;> omega
      have hp : pe x = 0 := by unfold pe; omega
      unfold V
      rw [hp, Nat.pow_zero, Nat.mul_one]
      have : mant y * 1 ≤ mant y * 2 ^ pe y := Nat.mul_le_mul_left _ (Nat.two_pow_pos _)
      omega
    · have hp : pe x + 1 ≤ pe y := by unfold pe; omega
      have hm := mant_lt x
      have h1 : mant x * 2 ^ pe x < 9007199254740992 * 2 ^ pe x := Nat.mul_lt_mul_of_pos_right hm (Nat.two_pow_pos _)
      have h2 : 9007199254740992 * 2 ^ pe x = 4503599627370496 * 2 ^ (pe x + 1) := by rw [Nat.pow_succ]; omega
      have h3 : 4503599627370496 * 2 ^ (pe x + 1) ≤ 4503599627370496 * 2 ^ pe y := Nat.mul_le_mul_left _ (Nat.pow_le_pow_right (by omega) hp)
      have h4 : 4503599627370496 * 2 ^ pe y ≤ mant y * 2 ^ pe y := Nat.mul_le_mul_right _ hy1
      unfold V
      omega
theorem neg_small {b : Nat} (h : b < 9218868437227405312) : neg b = false := by
  unfold neg
  rw [show b / 9223372036854775808 = 0 by omega]
  rfl
theorem order_words {x y : Nat} (hx : x < 9218868437227405312) (hy : y < 9218868437227405312) : double.order x y = some (compare (x : Int) (y : Int)) := by
  unfold Format.order
  rw [read_fin (by rw [rung_small hx]; exact hx), read_fin (by rw [rung_small hy]; exact hy), neg_small hx, neg_small hy, order_pos]
  have px := place_pe hx
  have py := place_pe hy
  obtain ⟨d, hd⟩ : ∃ d : Nat, d = min (pe x) (pe y) := ⟨_, rfl⟩
  have e1 : (place x - min (place x) (place y)).toNat = pe x - d := by omega
  have e2 : (place y - min (place x) (place y)).toNat = pe y - d := by omega
  rw [e1, e2]
  have hd1 : d ≤ pe x := by omega
  have hd2 : d ≤ pe y := by omega
  have v1 : V x = mant x * 2 ^ (pe x - d) * 2 ^ d := by rw [V, Nat.mul_assoc, ← Nat.pow_add, show pe x - d + d = pe x by omega]
  have v2 : V y = mant y * 2 ^ (pe y - d) * 2 ^ d := by rw [V, Nat.mul_assoc, ← Nat.pow_add, show pe y - d + d = pe y by omega]
  have hpos := Nat.two_pow_pos d
  rcases Nat.lt_trichotomy x y with h | h | h
  · have hv := V_mono h hy
    rw [v1, v2] at hv
    have := Nat.lt_of_mul_lt_mul_right hv
    rcases cmp_cases (mant x * 2 ^ (pe x - d)) (mant y * 2 ^ (pe y - d)) with ⟨_, e⟩ | ⟨h', _⟩ | ⟨h', _⟩
    · rcases cmp_cases x y with ⟨_, e'⟩ | ⟨h', _⟩ | ⟨h', _⟩
      · rw [e, e']
      · omega
      · omega
    · omega
    · omega
  · subst h
    rcases cmp_cases (mant x * 2 ^ (pe x - d)) (mant x * 2 ^ (pe x - d)) with ⟨h', _⟩ | ⟨_, e⟩ | ⟨h', _⟩
    · omega
    · rcases cmp_cases x x with ⟨h', _⟩ | ⟨_, e'⟩ | ⟨h', _⟩
      · omega
      · rw [e, e']
      · omega
    · omega
  · have hv := V_mono h hx
    rw [v1, v2] at hv
    have := Nat.lt_of_mul_lt_mul_right hv
    rcases cmp_cases (mant x * 2 ^ (pe x - d)) (mant y * 2 ^ (pe y - d)) with ⟨h', _⟩ | ⟨h', _⟩ | ⟨_, e⟩
    · omega
    · omega
    · rcases cmp_cases x y with ⟨h', _⟩ | ⟨h', _⟩ | ⟨_, e'⟩
      · omega
      · omega
      · rw [e, e']
/-- The comparisons of a program at such words. -/
theorem fcmp {x y : Nat} (hx : x < 9218868437227405312) (hy : y < 9218868437227405312) : FloatKind.f64.format.order x y = some (compare (x : Int) (y : Int)) := order_words hx hy
theorem flt {x y : Nat} (hx : x < 9218868437227405312) (hy : y < 9218868437227405312) : (FloatKind.f64.format.order x y == some Ordering.lt) = decide (x < y) := by rw [fcmp hx hy, cmp_lt]
theorem fgt {x y : Nat} (hx : x < 9218868437227405312) (hy : y < 9218868437227405312) : (FloatKind.f64.format.order x y == some Ordering.gt) = decide (y < x) := by rw [fcmp hx hy, cmp_gt]
theorem feq {x y : Nat} (hx : x < 9218868437227405312) (hy : y < 9218868437227405312) : (FloatKind.f64.format.order x y == some Ordering.eq) = decide (x = y) := by rw [fcmp hx hy, cmp_eq]
end Go.Proofs.YtifgealimgedpaaDoor.Flo
