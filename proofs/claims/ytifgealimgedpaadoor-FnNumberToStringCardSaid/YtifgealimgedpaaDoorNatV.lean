/- Whole numbers of any size: what a row of limbs is worth, and how many bits that has. Plain laws. -/
import Derived.Test.YtifgealimgedpaaDoorNatA
namespace Go.Proofs.YtifgealimgedpaaDoor.Nats
/-- What n limbs are worth. -/
def val (f : Nat → Nat) : Nat → Nat
  | 0 => 0
  | n + 1 => val f n + f n * 2 ^ (32 * n)
theorem val_lt (f : Nat → Nat) (n : Nat) (h : ∀ i, i < n → f i < 4294967296) : val f n < 2 ^ (32 * n) := by
  induction n with
  | zero => simp [val]
  | succ n ih =>
    have h1 := ih fun i hi => h i (by omega)
    have h2 := h n (by omega)
    have e : 2 ^ (32 * (n + 1)) = 4294967296 * 2 ^ (32 * n) := by
      rw [show 32 * (n + 1) = 32 + 32 * n by omega, Nat.pow_add]
    have h3 : f n * 2 ^ (32 * n) ≤ 4294967295 * 2 ^ (32 * n) := Nat.mul_le_mul_right _ (by omega)
    rw [val, e]
    omega
theorem val_congr (f g : Nat → Nat) (n : Nat) (h : ∀ i, i < n → f i = g i) : val f n = val g n := by
  induction n with
  | zero => rfl
  | succ n ih => rw [val, val, ih fun i hi => h i (by omega), h n (by omega)]
/-- Limbs that are 0 at the end are worth nothing. -/
theorem val_trim (f : Nat → Nat) (n k : Nat) (hk : k ≤ n) (h : ∀ j, k ≤ j → j < n → f j = 0) : val f n = val f k := by
  induction n with
  | zero => rw [show k = 0 by omega]
  | succ n ih =>
    by_cases e : k = n + 1
    · rw [e]
    · rw [val, h n (by omega) (by omega), Nat.zero_mul, Nat.add_zero, ih (by omega) fun j h1 h2 => h j h1 (by omega)]
/-- The bits of a trimmed row are those of its worth. -/
theorem bits_val (f : Nat → Nat) (n : Nat) (h : ∀ i, i < n → f i < 4294967296) (hz : 0 < n → f (n - 1) ≠ 0) : bitsOf n f = blen (val f n) := by
  unfold bitsOf
  cases n with
  | zero => rfl
  | succ n =>
    have h1 := val_lt f n fun i hi => h i (by omega)
    have h2 : f n ≠ 0 := by simpa using hz (by omega)
    rw [if_neg (by omega), Nat.add_sub_cancel, val]
    have hpos := Nat.two_pow_pos (32 * n)
    have h0 : f n * 2 ^ (32 * n) ≠ 0 := Nat.mul_ne_zero h2 (by omega)
    unfold blen
    rw [if_neg h2, if_neg (by omega)]
    have key : (val f n + f n * 2 ^ (32 * n)).log2 = 32 * n + (f n).log2 := by
      have hlo : 2 ^ (f n).log2 ≤ f n := Nat.log2_self_le h2
      have hhi : f n < 2 ^ ((f n).log2 + 1) := Nat.lt_log2_self
      have a1 : 2 ^ (32 * n + (f n).log2) ≤ val f n + f n * 2 ^ (32 * n) := by
        rw [Nat.pow_add, Nat.mul_comm]
        have := Nat.mul_le_mul_right (2 ^ (32 * n)) hlo
        omega
      have a2 : val f n + f n * 2 ^ (32 * n) < 2 ^ (32 * n + (f n).log2 + 1) := by
        rw [show 32 * n + (f n).log2 + 1 = ((f n).log2 + 1) + 32 * n by omega, Nat.pow_add]
        have h3 : (f n + 1) * 2 ^ (32 * n) ≤ 2 ^ ((f n).log2 + 1) * 2 ^ (32 * n) := Nat.mul_le_mul_right _ hhi
        rw [Nat.add_mul, Nat.one_mul] at h3
        omega
      have b1 := (Nat.le_log2 (n := val f n + f n * 2 ^ (32 * n)) (by omega)).2 a1
      have b2 := (Nat.log2_lt (n := val f n + f n * 2 ^ (32 * n)) (by omega)).2 a2
      omega
    rw [key]
    omega
theorem blen_shift (x n : Nat) (h : x ≠ 0) : blen (x * 2 ^ n) = blen x + n := by
  have hpos := Nat.two_pow_pos n
  have h0 : x * 2 ^ n ≠ 0 := Nat.mul_ne_zero h (by omega)
  unfold blen
  rw [if_neg h, if_neg h0]
  have hlo : 2 ^ x.log2 ≤ x := Nat.log2_self_le h
  have hhi : x < 2 ^ (x.log2 + 1) := Nat.lt_log2_self
  have b1 := (Nat.le_log2 (n := x * 2 ^ n) h0).2 (show 2 ^ (x.log2 + n) ≤ _ by rw [Nat.pow_add]; exact Nat.mul_le_mul_right _ hlo)
  have b2 := (Nat.log2_lt (n := x * 2 ^ n) h0).2 (show _ < 2 ^ (x.log2 + 1 + n) by rw [Nat.pow_add]; exact Nat.mul_lt_mul_of_pos_right hhi hpos)
  omega
theorem val_lt' (f : Nat → Nat) (n m : Nat) (h : ∀ i, i < n → f i < 4294967296) (hm : n ≤ m) : val f n < 2 ^ (32 * m) :=
  Nat.lt_of_lt_of_le (val_lt f n h) (Nat.pow_le_pow_right (by omega) (by omega))
theorem val_ge (f : Nat → Nat) (n : Nat) (hn : 0 < n) (h : f (n - 1) ≠ 0) : 2 ^ (32 * (n - 1)) ≤ val f n := by
  cases n with
  | zero => omega
  | succ n =>
    rw [Nat.add_sub_cancel] at h ⊢
    rw [val]
    have := Nat.mul_le_mul_right (2 ^ (32 * n)) (show 1 ≤ f n by omega)
    omega
/-- A longer row is worth more. -/
theorem val_len (f g : Nat → Nat) (n m : Nat) (h : ∀ i, i < n → f i < 4294967296) (hnm : n < m) (hg : g (m - 1) ≠ 0) : val f n < val g m :=
  Nat.lt_of_lt_of_le (val_lt' f n (m - 1) h (by omega)) (val_ge g m (by omega) hg)
/-- The highest limb in which two rows part decides. -/
theorem val_lex (f g : Nat → Nat) (n k : Nat) (hk : k < n) (h : ∀ i, i < n → f i < 4294967296) (he : ∀ i, k < i → i < n → f i = g i) (hl : f k < g k) : val f n < val g n := by
  induction n with
  | zero => omega
  | succ n ih =>
    rw [val, val]
    by_cases e : k = n
    · subst e
      have h1 := val_lt f k fun i hi => h i (by omega)
      have h2 := Nat.mul_le_mul_right (2 ^ (32 * k)) (show f k + 1 ≤ g k by omega)
      rw [Nat.add_mul, Nat.one_mul] at h2
      omega
    · have := ih (by omega) (fun i hi => h i (by omega)) fun i h1 h2 => he i h1 (by omega)
      rw [he n (by omega) (by omega)]
      omega
theorem blen_zero : blen 0 = 0 := rfl
theorem blen_pos {x : Nat} (h : x ≠ 0) : 0 < blen x := by
  unfold blen
  rw [if_neg h]
  omega
theorem lt_blen (x : Nat) : x < 2 ^ blen x := by
  unfold blen
  split
  · omega
  · exact Nat.lt_log2_self
theorem blen_low {x : Nat} (h : x ≠ 0) : 2 ^ (blen x - 1) ≤ x := by
  unfold blen
  rw [if_neg h, Nat.add_sub_cancel]
  exact Nat.log2_self_le h
theorem blen_le_of_lt {x n : Nat} (h : x < 2 ^ n) : blen x ≤ n := by
  by_cases h0 : x = 0
  · rw [h0, blen_zero]
    omega
  · have h1 := blen_low h0
    have h2 := Nat.lt_of_le_of_lt h1 h
    have := (Nat.pow_lt_pow_iff_right (a := 2) (by omega)).1 h2
    omega
theorem blen_mono {x y : Nat} (h : x ≤ y) : blen x ≤ blen y := blen_le_of_lt (Nat.lt_of_le_of_lt h (lt_blen y))
theorem blen_mul (x y : Nat) : blen (x * y) ≤ blen x + blen y := by
  apply blen_le_of_lt
  rw [Nat.pow_add]
  by_cases h0 : y = 0
  · rw [h0, Nat.mul_zero]
    exact Nat.mul_pos (Nat.two_pow_pos _) (Nat.two_pow_pos _)
  · exact Nat.mul_lt_mul_of_lt_of_le (lt_blen x) (Nat.le_of_lt (lt_blen y)) (by have := lt_blen y; omega)
/-- What a list of limbs is worth. -/
def lval (zs : List Nat) : Nat := val (fun i => zs.getD i 0) zs.length
theorem lval_snoc (zs : List Nat) (z : Nat) : lval (zs ++ [z]) = lval zs + z * 2 ^ (32 * zs.length) := by
  unfold lval
  rw [List.length_append, List.length_singleton, val]
  congr 1
  · exact val_congr _ _ _ fun i hi => by simp [List.getD_eq_getElem?_getD, List.getElem?_append_left hi]
  · simp [List.getD_eq_getElem?_getD]
theorem lval_zero (K : Nat) : lval (List.replicate K 0) = 0 := by
  induction K with
  | zero => rfl
  | succ K ih => rw [List.replicate_succ', lval_snoc, ih]; simp
/-- A round of the shift. -/
theorem shift_step (zs : List Nat) (K j s r y v cnt : Nat) (hl : zs.length = K + j) (hc : cnt = 32 * K + s) (h : lval zs + r * 2 ^ (32 * (K + j)) = v * 2 ^ cnt) :
    lval (zs ++ [(y * 2 ^ s + r) % 4294967296]) + (y * 2 ^ s + r) / 4294967296 * 2 ^ (32 * (K + (j + 1))) = (v + y * 2 ^ (32 * j)) * 2 ^ cnt := by
  rw [lval_snoc, hl, Nat.add_mul v, ← h, hc, show 32 * (K + (j + 1)) = 32 + 32 * (K + j) by omega, Nat.pow_add 2 32]
  obtain ⟨B, hB⟩ : ∃ B, B = 2 ^ (32 * (K + j)) := ⟨_, rfl⟩
  have e : y * 2 ^ (32 * j) * 2 ^ (32 * K + s) = y * 2 ^ s * B := by
    rw [hB, Nat.mul_assoc, Nat.mul_assoc, ← Nat.pow_add, ← Nat.pow_add]
    congr 2
    omega
  rw [e, ← hB]
  obtain ⟨x, hx⟩ : ∃ x, x = y * 2 ^ s + r := ⟨_, rfl⟩
  rw [← hx]
  have e2 : x * B = (x % 4294967296) * B + x / 4294967296 * (4294967296 * B) := by
    rw [← Nat.mul_assoc, ← Nat.add_mul]
    congr 1
    omega
  have e3 : x * B = y * 2 ^ s * B + r * B := by rw [hx, Nat.add_mul]
  rw [show (2 : Nat) ^ 32 = 4294967296 by decide]
  omega
/-- A limb more, with what is carried. -/
theorem carry_step (zs : List Nat) (j S T : Nat) (hl : zs.length = j) (h : lval zs + S * 2 ^ (32 * j) = T) :
    lval (zs ++ [S % 4294967296]) + S / 4294967296 * 2 ^ (32 * (j + 1)) = T := by
  rw [lval_snoc, hl, ← h, show 32 * (j + 1) = 32 + 32 * j by omega, Nat.pow_add 2 32]
  obtain ⟨B, hB⟩ : ∃ B, B = 2 ^ (32 * j) := ⟨_, rfl⟩
  rw [← hB]
  have e2 : S * B = (S % 4294967296) * B + S / 4294967296 * (4294967296 * B) := by
    rw [← Nat.mul_assoc, ← Nat.add_mul]
    congr 1
    omega
  rw [show (2 : Nat) ^ 32 = 4294967296 by decide]
  omega
end Go.Proofs.YtifgealimgedpaaDoor.Nats
