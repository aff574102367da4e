/- A double's digits: seventeen are enough. Plain laws. -/
import Derived.Test.YtifgealimgedpaaDoorRA
namespace Go.Proofs.YtifgealimgedpaaDoor.Nats
set_option linter.unusedVariables false
/-- A double above 0, by its word: dm times 2^dx; exA by exB. -/
def fe (w : Nat) : Nat := max (w / 4503599627370496) 1
def dm (w : Nat) : Nat := if w / 4503599627370496 = 0 then w % 4503599627370496 else w % 4503599627370496 + 4503599627370496
def dx (w : Nat) : Int := (fe w : Int) - 1075
def exA (w : Nat) : Nat := dm w * 2 ^ (dx w).toNat
def exB (w : Nat) : Nat := 2 ^ (-(dx w)).toNat
theorem dx_bd (w : Nat) (h : w < 9218868437227405312) : -1074 ≤ dx w ∧ dx w ≤ 971 := by unfold dx fe; omega
theorem dm_lt (w : Nat) : dm w < 9007199254740992 := by unfold dm; split <;> omega
theorem dm_norm (w : Nat) : 4503599627370496 ≤ dm w ∨ dx w = -1074 := by
  unfold dm dx fe
  split
  · right; omega
  · left; omega
theorem dm_pos (w : Nat) (h : 0 < w) : 0 < dm w := by unfold dm; split <;> omega
theorem pack_word (w : Nat) (h : w < 9218868437227405312) : packP (dm w) (dx w) = w := by
  have hb := dx_bd w h
  unfold packP
  rw [if_neg (by omega)]
  unfold dm dx fe
  by_cases h0 : w / 4503599627370496 = 0
  · rw [if_pos h0, if_pos (by omega)]
    omega
  · rw [if_neg h0, if_neg (by omega), show ((max (w / 4503599627370496) 1 : Nat) : Int) - 1075 + 1075 = ((w / 4503599627370496 : Nat) : Int) by omega, Int.toNat_natCast]
    omega
theorem exA_pos (w : Nat) (h : 0 < w) : 0 < exA w := Nat.mul_pos (dm_pos w h) (Nat.two_pow_pos _)
theorem exB_pos (w : Nat) : 0 < exB w := Nat.two_pow_pos _
/-- The double nearest to q times 10^x. -/
def backP (q : Nat) (x : Int) : Nat := roundP (q * 10 ^ x.toNat) (10 ^ (-x).toNat)
/-- Seventeen digits are enough. -/
theorem back_near (w c : Nat) (x : Int) (h0 : 0 < w) (hw : w < 9218868437227405312) (hc : 0 < c)
    (hbig : 10000000000000000 * (exB w * 10 ^ x.toNat) ≤ exA w * 10 ^ (-x).toNat)
    (hlo : 2 * (exA w * 10 ^ (-x).toNat) ≤ 2 * c * (exB w * 10 ^ x.toNat) + exB w * 10 ^ x.toNat)
    (hhi : 2 * c * (exB w * 10 ^ x.toNat) ≤ 2 * (exA w * 10 ^ (-x).toNat) + exB w * 10 ^ x.toNat) : backP c x = w := by
  have hd := dx_bd w hw
  have hm := dm_lt w
  have h10 : ∀ k, 0 < 10 ^ k := fun k => Nat.pow_pos (by omega)
  obtain ⟨X, hX⟩ : ∃ X, X = upAt (c * 10 ^ x.toNat) (dx w) := ⟨_, rfl⟩
  obtain ⟨Y, hY⟩ : ∃ Y, Y = dnAt (10 ^ (-x).toNat) (dx w) := ⟨_, rfl⟩
  obtain ⟨a, ha⟩ : ∃ a, a = exA w * 10 ^ (-x).toNat := ⟨_, rfl⟩
  obtain ⟨b, hb⟩ : ∃ b, b = exB w * 10 ^ x.toNat := ⟨_, rfl⟩
  rw [← ha, ← hb] at hbig hlo hhi
  have ha0 : 0 < a := by rw [ha]; exact Nat.mul_pos (exA_pos w h0) (h10 _)
  have hb0 : 0 < b := by rw [hb]; exact Nat.mul_pos (exB_pos w) (h10 _)
  have hY0 : 0 < Y := by rw [hY]; exact dn_pos (h10 _) _
  have id : X * a = Y * dm w * (c * b) := by
    rw [hX, hY, ha, hb]
    unfold upAt dnAt exA exB
    ac_rfl
  obtain ⟨T, hT⟩ : ∃ T, T = Y * dm w := ⟨_, rfl⟩
  rw [← hT] at id
  have l1 := Nat.mul_le_mul_left T hlo
  have l2 := Nat.mul_le_mul_left T hhi
  have hmb : dm w * b < a := by
    have := Nat.mul_lt_mul_of_pos_right (show dm w < 10000000000000000 by omega) hb0
    omega
  have hTb : T * b < Y * a := by
    rw [hT, Nat.mul_assoc]
    exact Nat.mul_lt_mul_of_pos_left hmb hY0
  have e1 : T * (2 * c * b) = 2 * (X * a) := by rw [id]; ac_rfl
  have e2 : T * (2 * a) = 2 * (T * a) := by ac_rfl
  rw [Nat.mul_add, e1, e2] at l1
  rw [Nat.mul_add, e1, e2] at l2
  unfold backP
  have hT2 : dm w * Y = T := by rw [hT, Nat.mul_comm]
  refine (round_near _ _ (dm w) (dx w) (Nat.mul_pos hc (h10 _)) (h10 _) hd.1 hm (dm_norm w) ?_ ?_ ?_).trans (pack_word w hw)
  · rw [← hX, ← hY]
    refine Nat.lt_of_mul_lt_mul_right (a := a) ?_
    rw [Nat.mul_assoc 2 X, Nat.add_mul, Nat.mul_assoc 2, hT2, Nat.one_mul, Nat.add_mul, Nat.mul_assoc 2]
    omega
  · rw [← hX, ← hY]
    refine Nat.lt_of_mul_lt_mul_right (a := a) ?_
    rw [Nat.mul_assoc 2, hT2, Nat.add_mul, Nat.mul_assoc 2 T, Nat.mul_assoc 2 X]
    omega
  · intro hme _
    rw [← hX, ← hY]
    refine Nat.lt_of_mul_lt_mul_right (a := a) ?_
    have h2 : 2 * (T * b) < Y * a := by
      have h3 : 2 * (dm w * b) < a := by
        rw [hme]
        omega
      have := Nat.mul_lt_mul_of_pos_left h3 hY0
      rw [hT, Nat.mul_assoc]
      calc 2 * (Y * (dm w * b)) = Y * (2 * (dm w * b)) := by ac_rfl
        _ < Y * a := this
    rw [Nat.mul_assoc 4, hT2, Nat.add_mul, Nat.mul_assoc 4 T, Nat.mul_assoc 4 X]
    omega
end Go.Proofs.YtifgealimgedpaaDoor.Nats
