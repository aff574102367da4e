/- The double nearest to a quotient, where it is near to a double. Plain laws. -/
import Derived.Test.YtifgealimgedpaaDoorNatJ
namespace Go.Proofs.YtifgealimgedpaaDoor.Nats
set_option linter.unusedVariables false
theorem two_toNat (e : Int) (k : Nat) : (-e).toNat + (e + k).toNat = k + (-(e + k)).toNat + e.toNat := by omega
/-- Two exponents. -/
theorem ratio (U V : Nat) (e : Int) (k : Nat) : upAt U e * dnAt V (e + k) = 2 ^ k * (upAt U (e + k) * dnAt V e) := by
  unfold upAt dnAt
  have h : (2 : Nat) ^ (-e).toNat * 2 ^ (e + k).toNat = 2 ^ k * (2 ^ (-(e + k)).toNat * 2 ^ e.toNat) := by
    rw [← Nat.pow_add, ← Nat.pow_add, ← Nat.pow_add, two_toNat, Nat.add_assoc]
  calc U * 2 ^ (-e).toNat * (V * 2 ^ (e + k).toNat) = U * V * (2 ^ (-e).toNat * 2 ^ (e + k).toNat) := by ac_rfl
    _ = 2 ^ k * (U * 2 ^ (-(e + k)).toNat * (V * 2 ^ e.toNat)) := by rw [h]; ac_rfl
/-- What the exponent of a quotient is. -/
def IsExpo (U V : Nat) (e : Int) : Prop := -1074 ≤ e ∧ upAt U e < 9007199254740992 * dnAt V e ∧ (e = -1074 ∨ 4503599627370496 * dnAt V e ≤ upAt U e)
theorem q_ge (U V t : Nat) (e : Int) (hV : 0 < V) : t ≤ qAt U V e ↔ t * dnAt V e ≤ upAt U e := by
  rw [qAt, Nat.le_div_iff_mul_le (dn_pos hV e)]
theorem expo_is (U V : Nat) (hU : 0 < U) (hV : 0 < V) : IsExpo U V (expo U V) := by
  have hD0 : -1074 ≤ expo0 U V := by unfold expo0; omega
  have hD1 : (blen U : Int) - blen V - 53 ≤ expo0 U V := by unfold expo0; omega
  unfold expo
  by_cases h : qAt U V (expo0 U V) < 9007199254740992
  · rw [if_pos h]
    refine ⟨hD0, ?_, ?_⟩
    · have := q_ge U V 9007199254740992 (expo0 U V) hV
      omega
    · by_cases h2 : expo0 U V = -1074
      · exact .inl h2
      · right
        have he : expo0 U V = (blen U : Int) - blen V - 53 := by unfold expo0 at h2 ⊢; omega
        have h1 := blen_low (x := U) (by omega)
        have h3 := lt_blen V
        have h4 := blen_pos (x := U) (by omega)
        unfold upAt dnAt
        rw [he]
        obtain ⟨E, hE⟩ : ∃ E : Int, E = (blen U : Int) - blen V - 53 := ⟨_, rfl⟩
        rw [← hE]
        have a1 := Nat.mul_le_mul_right (2 ^ (-E).toNat) h1
        have a2 := Nat.mul_le_mul_right (2 ^ E.toNat) (Nat.le_of_lt h3)
        rw [← Nat.pow_add] at a1 a2
        have a3 := Nat.mul_le_mul_left (2 ^ 52) a2
        rw [← Nat.pow_add] at a3
        rw [show (4503599627370496 : Nat) = 2 ^ 52 from rfl]
        refine Nat.le_trans a3 (Nat.le_trans (Nat.pow_le_pow_right (by omega) (by omega)) a1)
  · rw [if_neg h]
    have hd := q_53 U V (expo0 U V + 1) hV (by omega)
    refine ⟨by omega, ?_, .inr ?_⟩
    · have := q_ge U V 9007199254740992 (expo0 U V + 1) hV
      omega
    · have h1 := (q_ge U V 9007199254740992 (expo0 U V) hV).1 (by omega)
      have h2 := ratio U V (expo0 U V) 1
      have h3 := dn_pos hV (expo0 U V)
      rw [Nat.pow_one] at h2
      have h4 := Nat.mul_le_mul_right (dnAt V (expo0 U V + 1)) h1
      have e1 : ((1 : Nat) : Int) = 1 := rfl
      rw [e1] at h2
      rw [h2, Nat.mul_assoc, Nat.mul_comm (dnAt V (expo0 U V)), ← Nat.mul_assoc, ← Nat.mul_assoc] at h4
      have h5 := Nat.le_of_mul_le_mul_right h4 h3
      omega
theorem expo_uniq (U V : Nat) (hV : 0 < V) (e e' : Int) (h : IsExpo U V e) (h' : IsExpo U V e') : e = e' := by
  have key : ∀ e e' : Int, IsExpo U V e → IsExpo U V e' → ¬ e < e' := by
    rintro e e' ⟨a1, a2, a3⟩ ⟨b1, b2, b3⟩ hlt
    obtain ⟨k, hk⟩ : ∃ k : Nat, e' = e + (k + 1 : Nat) := ⟨(e' - e - 1).toNat, by omega⟩
    subst hk
    have b3 := b3.resolve_left (by omega)
    have h2 := ratio U V e (k + 1)
    have p1 := dn_pos hV e
    have p2 := dn_pos hV (e + (k + 1 : Nat))
    have h3 := Nat.mul_lt_mul_of_pos_right a2 p2
    rw [h2] at h3
    have h4 := Nat.mul_le_mul_left (2 ^ (k + 1)) (Nat.mul_le_mul_right (dnAt V e) b3)
    have h5 : 2 * (4503599627370496 * dnAt V (e + (k + 1 : Nat)) * dnAt V e) ≤ 2 ^ (k + 1) * (4503599627370496 * dnAt V (e + (k + 1 : Nat)) * dnAt V e) := by
      refine Nat.mul_le_mul_right _ ?_
      have := Nat.pow_le_pow_right (n := 2) (by omega) (show 1 ≤ k + 1 by omega)
      omega
    obtain ⟨Z, hZ⟩ : ∃ Z, Z = dnAt V (e + (k + 1 : Nat)) * dnAt V e := ⟨_, rfl⟩
    rw [Nat.mul_assoc, ← hZ] at h5
    rw [Nat.mul_assoc 4503599627370496, ← hZ] at h4
    rw [Nat.mul_assoc 9007199254740992, Nat.mul_comm (dnAt V e), ← hZ] at h3
    omega
  have h1 := key e e' h h'
  have h2 := key e' e h' h
  omega
theorem expo_eq (U V : Nat) (hU : 0 < U) (hV : 0 < V) (e : Int) (h : IsExpo U V e) : expo U V = e := expo_uniq U V hV _ _ (expo_is U V hU hV) h
/-- A quotient near to a whole number is rounded to it. -/
theorem qUp_near (U V m : Nat) (e : Int) (hV : 0 < V) (h1 : 2 * upAt U e < (2 * m + 1) * dnAt V e) (h2 : 2 * m * dnAt V e < 2 * upAt U e + dnAt V e) : qUp U V e = m := by
  have hY := dn_pos hV e
  obtain ⟨X, hX⟩ : ∃ X, X = upAt U e := ⟨_, rfl⟩
  obtain ⟨Y, hYe⟩ : ∃ Y, Y = dnAt V e := ⟨_, rfl⟩
  unfold qUp restAt qAt
  rw [← hX, ← hYe] at h1 h2
  rw [← hYe] at hY
  rw [← hX, ← hYe]
  have hdm := Nat.div_add_mod X Y
  have hlt := Nat.mod_lt X hY
  obtain ⟨q, hq⟩ : ∃ q, q = X / Y := ⟨_, rfl⟩
  obtain ⟨r, hr⟩ : ∃ r, r = X % Y := ⟨_, rfl⟩
  rw [← hq, ← hr] at hdm ⊢
  rw [← hr] at hlt
  have hc : Y * q = q * Y := Nat.mul_comm _ _
  have hq1 : q < m + 1 := by
    by_cases h : q < m + 1
    · exact h
    · have := Nat.mul_le_mul_right Y (show m + 1 ≤ q by omega)
      rw [Nat.add_mul] at h1 this
      rw [Nat.mul_assoc] at h1
      omega
  have hq2 : m < q + 2 := by
    by_cases h : m < q + 2
    · exact h
    · have := Nat.mul_le_mul_right Y (show q + 2 ≤ m by omega)
      rw [Nat.add_mul] at this
      rw [Nat.mul_assoc] at h2
      omega
  by_cases hqm : q = m
  · subst hqm
    rw [Nat.add_mul, Nat.mul_assoc] at h1
    rw [if_neg]
    rintro (h | ⟨h, _⟩) <;> omega
  · have hqm2 : m = q + 1 := by omega
    subst hqm2
    rw [Nat.mul_assoc, Nat.add_mul] at h2
    rw [if_pos (.inl (by omega))]
/-- A quotient that is near to a double is rounded to it. -/
theorem round_near (U V m : Nat) (e : Int) (hU : 0 < U) (hV : 0 < V) (he : -1074 ≤ e) (hm : m < 9007199254740992) (hn : 4503599627370496 ≤ m ∨ e = -1074)
    (h1 : 2 * upAt U e < (2 * m + 1) * dnAt V e) (h2 : 2 * m * dnAt V e < 2 * upAt U e + dnAt V e) (h3 : m = 4503599627370496 → e ≠ -1074 → 4 * m * dnAt V e < 4 * upAt U e + dnAt V e) : roundP U V = packP m e := by
  have hY := dn_pos hV e
  unfold roundP
  rw [if_neg (by omega)]
  have hup : upAt U e < 9007199254740992 * dnAt V e := by
    have := Nat.mul_le_mul_right (dnAt V e) (show 2 * m + 1 ≤ 2 * 9007199254740992 by omega)
    rw [Nat.mul_assoc 2 9007199254740992] at this
    omega
  by_cases hlo : e = -1074 ∨ 4503599627370496 * dnAt V e ≤ upAt U e
  · rw [expo_eq U V hU hV e ⟨he, hup, hlo⟩, qUp_near U V m e hV h1 h2, if_neg (by omega)]
  · have hne : e ≠ -1074 := fun h => hlo (.inl h)
    have hlt : upAt U e < 4503599627370496 * dnAt V e := by
      by_cases h : upAt U e < 4503599627370496 * dnAt V e
      · exact h
      · exact absurd (.inr (by omega)) hlo
    have hme : m = 4503599627370496 := by
      by_cases h : m = 4503599627370496
      · exact h
      · have hge : 4503599627370497 ≤ m := by omega
        have := Nat.mul_le_mul_right (dnAt V e) (show 2 * 4503599627370496 + 2 ≤ 2 * m by omega)
        rw [Nat.add_mul, Nat.mul_assoc 2 4503599627370496] at this
        omega
    have h3 := h3 hme hne
    subst hme
    -- the exponent below
    have hr := ratio U V (e - 1) 1
    rw [Nat.pow_one, show e - 1 + ((1 : Nat) : Int) = e by omega] at hr
    have hY1 := dn_pos hV (e - 1)
    obtain ⟨X1, hX1⟩ : ∃ X, X = upAt U (e - 1) := ⟨_, rfl⟩
    obtain ⟨Y1, hYe1⟩ : ∃ Y, Y = dnAt V (e - 1) := ⟨_, rfl⟩
    obtain ⟨X, hX⟩ : ∃ X, X = upAt U e := ⟨_, rfl⟩
    obtain ⟨Y, hYe⟩ : ∃ Y, Y = dnAt V e := ⟨_, rfl⟩
    rw [← hX1, ← hYe1, ← hX, ← hYe] at hr
    rw [← hYe1] at hY1
    rw [← hX, ← hYe] at hlt h3
    rw [← hYe] at hY
    have k1 : X1 < 9007199254740992 * Y1 := by
      have a := Nat.mul_lt_mul_of_pos_right hlt hY1
      have b : X1 * Y < 9007199254740992 * Y1 * Y := by
        rw [hr, Nat.mul_assoc 9007199254740992, Nat.mul_comm Y1 Y]
        rw [Nat.mul_assoc 4503599627370496] at a
        omega
      exact Nat.lt_of_mul_lt_mul_right b
    have k2 : 2 * 9007199254740992 * Y1 < 2 * X1 + Y1 := by
      have a := Nat.mul_lt_mul_of_pos_right h3 hY1
      have b : 2 * 9007199254740992 * Y1 * Y < (2 * X1 + Y1) * Y := by
        rw [Nat.add_mul, Nat.mul_assoc 2 X1, hr, Nat.mul_assoc _ Y1 Y, Nat.mul_comm Y1 Y]
        rw [Nat.add_mul, Nat.mul_assoc 4 X, Nat.mul_assoc _ Y Y1] at a
        omega
      exact Nat.lt_of_mul_lt_mul_right b
    have hq : qUp U V (e - 1) = 9007199254740992 := qUp_near U V 9007199254740992 (e - 1) hV (by rw [← hX1, ← hYe1]; omega) (by rw [← hX1, ← hYe1]; exact k2)
    have hex : expo U V = e - 1 := expo_eq U V hU hV (e - 1) ⟨by omega, by rw [← hX1, ← hYe1]; exact k1, .inr (by rw [← hX1, ← hYe1]; omega)⟩
    rw [hex, hq, if_pos rfl, show e - 1 + 1 = e by omega]
end Go.Proofs.YtifgealimgedpaaDoor.Nats
