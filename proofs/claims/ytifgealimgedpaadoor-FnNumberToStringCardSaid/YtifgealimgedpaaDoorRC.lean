/- A double's digits: the search for the shortest ones ends, and for whole numbers it ends at their own digits. Plain laws. -/
import Derived.Test.YtifgealimgedpaaDoorRB
namespace Go.Proofs.YtifgealimgedpaaDoor.Nats
set_option linter.unusedVariables false
/-- The candidates with n - x digits. -/
def quoP (w : Nat) (x : Int) : Nat := exA w * 10 ^ (-x).toNat / (exB w * 10 ^ x.toNat)
def upP (w : Nat) (x : Int) : Prop := exB w * 10 ^ x.toNat ≤ 2 * (exA w * 10 ^ (-x).toNat % (exB w * 10 ^ x.toNat))
instance (w : Nat) (x : Int) : Decidable (upP w x) := inferInstanceAs (Decidable (_ ≤ _))
def bestP (w : Nat) (x : Int) : Nat := if upP w x then quoP w x + 1 else quoP w x
def otherP (w : Nat) (x : Int) : Nat := if upP w x then quoP w x else quoP w x + 1
/-- Between which powers of 10 a double is. -/
def LoN (w : Nat) (n : Int) : Prop := exB w * 10 ^ (n - 1).toNat ≤ exA w * 10 ^ (1 - n).toNat
def HiN (w : Nat) (n : Int) : Prop := exA w * 10 ^ (-n).toNat < exB w * 10 ^ n.toNat
theorem ten_pos (k : Nat) : 0 < 10 ^ k := Nat.pow_pos (by omega)
theorem scale_le {a b i j i' j' : Nat} (h : b * 10 ^ i ≤ a * 10 ^ j) (e : i' + j = i + j') : b * 10 ^ i' ≤ a * 10 ^ j' := by
  have h1 := Nat.mul_le_mul_right (10 ^ i') h
  have e1 : a * 10 ^ j * 10 ^ i' = a * 10 ^ j' * 10 ^ i := by
    rw [Nat.mul_assoc, Nat.mul_assoc, ← Nat.pow_add, ← Nat.pow_add, Nat.add_comm j i', e, Nat.add_comm]
  have e2 : b * 10 ^ i * 10 ^ i' = b * 10 ^ i' * 10 ^ i := by ac_rfl
  rw [e1, e2] at h1
  exact Nat.le_of_mul_le_mul_right h1 (ten_pos i)
theorem scale_lt {a b i j i' j' : Nat} (h : a * 10 ^ j < b * 10 ^ i) (e : i' + j = i + j') : a * 10 ^ j' < b * 10 ^ i' := by
  by_cases hc : a * 10 ^ j' < b * 10 ^ i'
  · exact hc
  · have := scale_le (i' := i) (j' := j) (show b * 10 ^ i' ≤ a * 10 ^ j' by omega) (by omega)
    omega
theorem lo_k {w : Nat} {n : Int} (h : LoN w n) (k : Nat) (hk : 1 ≤ k) : 10 ^ (k - 1) * (exB w * 10 ^ (n - k).toNat) ≤ exA w * 10 ^ (-(n - k)).toNat := by
  have := scale_le (i' := (k - 1) + (n - k).toNat) (j' := (-(n - k)).toNat) h (by omega)
  rw [Nat.pow_add] at this
  calc _ = exB w * (10 ^ (k - 1) * 10 ^ (n - k).toNat) := by ac_rfl
    _ ≤ _ := this
theorem hi_k {w : Nat} {n : Int} (h : HiN w n) (k : Nat) : exA w * 10 ^ (-(n - k)).toNat < 10 ^ k * (exB w * 10 ^ (n - k).toNat) := by
  have := scale_lt (i' := k + (n - k).toNat) (j' := (-(n - k)).toNat) h (by omega)
  rw [Nat.pow_add] at this
  calc _ < exB w * (10 ^ k * 10 ^ (n - k).toNat) := this
    _ = _ := by ac_rfl
theorem den_pos (w : Nat) (x : Int) : 0 < exB w * 10 ^ x.toNat := Nat.mul_pos (exB_pos w) (ten_pos _)
theorem quo_lo {w : Nat} {n : Int} (h : LoN w n) (k : Nat) (hk : 1 ≤ k) : 10 ^ (k - 1) ≤ quoP w (n - k) := by
  rw [quoP, Nat.le_div_iff_mul_le (den_pos w _)]
  exact lo_k h k hk
theorem quo_hi {w : Nat} {n : Int} (h : HiN w n) (k : Nat) : quoP w (n - k) < 10 ^ k := by
  rw [quoP, Nat.div_lt_iff_lt_mul (den_pos w _)]
  exact hi_k h k
theorem best_bd {w : Nat} {n : Int} (h : LoN w n) (h' : HiN w n) (k : Nat) (hk : 1 ≤ k) : 10 ^ (k - 1) ≤ bestP w (n - k) ∧ bestP w (n - k) ≤ 10 ^ k ∧ 10 ^ (k - 1) ≤ otherP w (n - k) ∧ otherP w (n - k) ≤ 10 ^ k := by
  have h1 := quo_lo h k hk
  have h2 := quo_hi h' k
  unfold bestP otherP
  split <;> omega
/-- The search ends at seventeen digits at the latest. -/
theorem seventeen {w : Nat} (h0 : 0 < w) (hw : w < 9218868437227405312) {n : Int} (h : LoN w n) (h' : HiN w n) : backP (bestP w (n - (17 : Nat))) (n - (17 : Nat)) = w := by
  have hb := best_bd h h' 17 (by omega)
  have hl := lo_k h 17 (by omega)
  obtain ⟨x, hx⟩ : ∃ x : Int, x = n - (17 : Nat) := ⟨_, rfl⟩
  rw [← hx] at hb hl ⊢
  have e16 : (10 : Nat) ^ (17 - 1) = 10000000000000000 := by decide
  rw [e16] at hb hl
  have hdm := Nat.div_add_mod (exA w * 10 ^ (-x).toNat) (exB w * 10 ^ x.toNat)
  have hlt := Nat.mod_lt (exA w * 10 ^ (-x).toNat) (den_pos w x)
  have hbest : bestP w x = if upP w x then quoP w x + 1 else quoP w x := rfl
  have hup : upP w x ↔ exB w * 10 ^ x.toNat ≤ 2 * (exA w * 10 ^ (-x).toNat % (exB w * 10 ^ x.toNat)) := Iff.rfl
  have hq : quoP w x = exA w * 10 ^ (-x).toNat / (exB w * 10 ^ x.toNat) := rfl
  obtain ⟨c, hc⟩ : ∃ c, c = bestP w x := ⟨_, rfl⟩
  rw [← hc] at hb hbest ⊢
  refine back_near w c x h0 hw (by omega) hl ?_ ?_
  all_goals
    obtain ⟨a, ha⟩ : ∃ a, a = exA w * 10 ^ (-x).toNat := ⟨_, rfl⟩
    obtain ⟨b, hbb⟩ : ∃ b, b = exB w * 10 ^ x.toNat := ⟨_, rfl⟩
    rw [← ha, ← hbb] at hdm hlt hup hq ⊢
    rw [← hq] at hdm
    obtain ⟨q, hqq⟩ : ∃ q, q = quoP w x := ⟨_, rfl⟩
    rw [← hqq] at hdm hbest
    have e1 : b * q = q * b := Nat.mul_comm _ _
    by_cases hu : upP w x
    · rw [if_pos hu] at hbest
      have hu := hup.1 hu
      rw [hbest, Nat.mul_assoc, Nat.add_mul]
      omega
    · rw [if_neg hu] at hbest
      have hu : ¬ b ≤ 2 * (a % b) := fun h => hu (hup.2 h)
      rw [hbest, Nat.mul_assoc]
      omega
/-- A whole number's word. -/
theorem round_whole {w N : Nat} (hw : w < 9218868437227405312) (hN : 0 < N) (h : exA w = N * exB w) : roundP N 1 = w := by
  have hd := dx_bd w hw
  have e1 : upAt N (dx w) = dm w * dnAt 1 (dx w) := by
    have : N * exB w = dm w * 2 ^ (dx w).toNat := h.symm
    unfold upAt dnAt
    unfold exB at this
    rw [this, Nat.one_mul]
  have hY := dn_pos (V := 1) (by omega) (dx w)
  refine (round_near N 1 (dm w) (dx w) hN (by omega) hd.1 (dm_lt w) (dm_norm w) ?_ ?_ ?_).trans (pack_word w hw)
  · rw [e1, Nat.add_mul, Nat.mul_assoc]
    omega
  · rw [e1, Nat.mul_assoc]
    omega
  · intro _ _
    rw [e1, Nat.mul_assoc]
    omega
/-- A whole number below 2^53 is the double with its own word. -/
theorem whole_exact (N : Nat) (hN : 0 < N) (h : N < 9007199254740992) : ∃ m e : Nat, e ≤ 52 ∧ m = N * 2 ^ e ∧ 4503599627370496 ≤ m ∧ m < 9007199254740992 ∧ roundP N 1 = packP m (-(e : Int)) := by
  have h1 := blen_low (x := N) (by omega)
  have h2 := lt_blen N
  have h3 := blen_pos (x := N) (by omega)
  have h4 : blen N ≤ 53 := blen_le_of_lt h
  refine ⟨N * 2 ^ (53 - blen N), 53 - blen N, by omega, rfl, ?_, ?_, ?_⟩
  · have := Nat.mul_le_mul_right (2 ^ (53 - blen N)) h1
    rw [← Nat.pow_add, show blen N - 1 + (53 - blen N) = 52 by omega] at this
    exact this
  · have := Nat.mul_lt_mul_of_pos_right h2 (Nat.two_pow_pos (53 - blen N))
    rw [← Nat.pow_add, show blen N + (53 - blen N) = 53 by omega] at this
    exact this
  · obtain ⟨m, hm⟩ : ∃ m, m = N * 2 ^ (53 - blen N) := ⟨_, rfl⟩
    have e1 : upAt N (-((53 - blen N : Nat) : Int)) = m := by
      unfold upAt
      rw [hm, show (-(-((53 - blen N : Nat) : Int))).toNat = 53 - blen N by omega]
    have e2 : dnAt 1 (-((53 - blen N : Nat) : Int)) = 1 := by
      unfold dnAt
      rw [show (-((53 - blen N : Nat) : Int)).toNat = 0 by omega]
    have b1 : 4503599627370496 ≤ m := by
      have := Nat.mul_le_mul_right (2 ^ (53 - blen N)) h1
      rw [← Nat.pow_add, show blen N - 1 + (53 - blen N) = 52 by omega, ← hm] at this
      exact this
    have b2 : m < 9007199254740992 := by
      have := Nat.mul_lt_mul_of_pos_right h2 (Nat.two_pow_pos (53 - blen N))
      rw [← Nat.pow_add, show blen N + (53 - blen N) = 53 by omega, ← hm] at this
      exact this
    rw [← hm]
    exact round_near N 1 m (-((53 - blen N : Nat) : Int)) hN (by omega) (by omega) b2 (.inl b1) (by rw [e1, e2]; omega) (by rw [e1, e2]; omega) (fun _ _ => by rw [e1, e2]; omega)
theorem pack_inj {m m' e e' : Nat} (h1 : 4503599627370496 ≤ m) (h2 : m < 9007199254740992) (h1' : 4503599627370496 ≤ m') (h2' : m' < 9007199254740992) (he : e ≤ 52) (he' : e' ≤ 52) (h : packP m (-(e : Int)) = packP m' (-(e' : Int))) : m = m' ∧ e = e' := by
  unfold packP at h
  rw [if_neg (by omega), if_neg (by omega), if_neg (by omega), if_neg (by omega)] at h
  obtain ⟨a, ha⟩ : ∃ a : Nat, a = (-(e : Int) + 1075).toNat := ⟨_, rfl⟩
  obtain ⟨b, hb⟩ : ∃ b : Nat, b = (-(e' : Int) + 1075).toNat := ⟨_, rfl⟩
  rw [← ha, ← hb] at h
  have : a = b := by omega
  constructor <;> omega
theorem round_inj {N M : Nat} (hN : 0 < N) (hN2 : N < 9007199254740992) (hM : 0 < M) (hM2 : M < 9007199254740992) (h : roundP N 1 = roundP M 1) : N = M := by
  obtain ⟨m, e, a1, a2, a3, a4, a5⟩ := whole_exact N hN hN2
  obtain ⟨m', e', b1, b2, b3, b4, b5⟩ := whole_exact M hM hM2
  rw [a5, b5] at h
  obtain ⟨h1, h2⟩ := pack_inj a3 a4 b3 b4 a1 b1 h
  rw [a2, b2, h2] at h1
  exact Nat.eq_of_mul_eq_mul_right (Nat.two_pow_pos e') h1
/-- What comes back is the whole number itself. -/
theorem back_whole {w N c k : Nat} {n : Nat} (hw : w < 9218868437227405312) (hN : 0 < N) (hN2 : N < 9007199254740992) (h : exA w = N * exB w) (hkn : k ≤ n) (hc : 0 < c) (hb : c * 10 ^ (n - k) < 9007199254740992) (hback : backP c ((n : Int) - (k : Int)) = w) : c * 10 ^ (n - k) = N := by
  unfold backP at hback
  rw [show ((n : Int) - (k : Int)).toNat = n - k by omega, show (-((n : Int) - (k : Int))).toNat = 0 by omega, Nat.pow_zero, ← round_whole hw hN h] at hback
  exact round_inj (Nat.mul_pos hc (ten_pos _)) hb hN hN2 hback
theorem best_whole {w N : Nat} (h : exA w = N * exB w) : bestP w 0 = N := by
  have hB := exB_pos w
  have hq : quoP w 0 = N := by
    unfold quoP
    simp [h, Nat.mul_div_cancel _ hB]
  have hu : ¬ upP w 0 := by
    unfold upP
    simp [h]
    omega
  rw [bestP, if_neg hu, hq]
theorem back_self {w N : Nat} (hw : w < 9218868437227405312) (hN : 0 < N) (h : exA w = N * exB w) : backP N 0 = w := by
  unfold backP
  simp
  exact round_whole hw hN h
theorem n_pos {w N : Nat} {n : Int} (hN : 0 < N) (h : exA w = N * exB w) (hh : HiN w n) : 1 ≤ n := by
  by_cases hc : 1 ≤ n
  · exact hc
  · unfold HiN at hh
    rw [h, show n.toNat = 0 by omega, Nat.pow_zero, Nat.mul_one, Nat.mul_assoc, Nat.mul_comm (exB w), ← Nat.mul_assoc] at hh
    have := Nat.mul_le_mul_right (exB w) (show 1 ≤ N * 10 ^ (-n).toNat from Nat.mul_pos hN (ten_pos _))
    omega
theorem n_bd {w N : Nat} {n : Int} (hN : 0 < N) (h : exA w = N * exB w) (hl : LoN w n) (hh : HiN w n) : 1 ≤ n ∧ 10 ^ (n.toNat - 1) ≤ N ∧ N < 10 ^ n.toNat := by
  have h1 := n_pos hN h hh
  have hB := exB_pos w
  refine ⟨h1, ?_, ?_⟩
  · unfold LoN at hl
    rw [h, show (1 - n).toNat = 0 by omega, Nat.pow_zero, Nat.mul_one, Nat.mul_comm] at hl
    rw [show n.toNat - 1 = (n - 1).toNat by omega]
    exact Nat.le_of_mul_le_mul_right hl hB
  · unfold HiN at hh
    rw [h, show (-n).toNat = 0 by omega, Nat.pow_zero, Nat.mul_one, Nat.mul_comm (exB w)] at hh
    exact Nat.lt_of_mul_lt_mul_right hh
end Go.Proofs.YtifgealimgedpaaDoor.Nats
