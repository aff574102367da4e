/- The digits of a Base64 VLQ, as numbers. No program in sight. -/
import Derived.Below
namespace Go.Proofs.Ytdcojgkblfobnaa.Vlq
/-- The digits of a number, five bits each, the lowest first; all but the last bear 32. -/
def enc (v : Nat) : List Nat := if h : v < 32 then [v] else (v % 32 + 32) :: enc (v / 32)
termination_by v
decreasing_by omega
theorem enc_small {v : Nat} (h : v < 32) : enc v = [v] := by rw [enc, dif_pos h]
theorem enc_big {v : Nat} (h : ¬ v < 32) : enc v = (v % 32 + 32) :: enc (v / 32) := by rw [enc, dif_neg h]
theorem enc_pos (v : Nat) : 0 < (enc v).length := by
  by_cases h : v < 32
  · rw [enc_small h]
    exact Nat.zero_lt_one
  · rw [enc_big h]
    simp
/-- What is said of digit j. -/
theorem enc_at (v : Nat) : ∀ j, j < (enc v).length → ∃ d, (enc v)[j]? = some d ∧ d < 64 ∧ d % 32 = v / 32 ^ j % 32 ∧ (32 ≤ d ↔ j + 1 < (enc v).length) := by
  induction v using Nat.strongRecOn with
  | _ v ih =>
    intro j hj
    by_cases h : v < 32
    · rw [enc_small h] at hj ⊢
      simp only [List.length_cons, List.length_nil] at hj ⊢
      obtain rfl : j = 0 := by omega
      exact ⟨v, rfl, by omega, by simp, by omega⟩
    · rw [enc_big h] at hj ⊢
      cases j with
      | zero =>
        refine ⟨v % 32 + 32, rfl, by omega, by simp, ?_⟩
        have := enc_pos (v / 32)
        simp only [List.length_cons]
        omega
      | succ j =>
        simp only [List.length_cons] at hj
        obtain ⟨d, h1, h2, h3, h4⟩ := ih (v / 32) (by omega) j (by omega)
        refine ⟨d, by simpa using h1, h2, ?_, ?_⟩
        · rw [h3, Nat.div_div_eq_div_mul, Nat.pow_succ, Nat.mul_comm]
        · simp only [List.length_cons]
          omega
theorem enc_length (k : Nat) : ∀ v, v < 32 ^ (k + 1) → (enc v).length ≤ k + 1 := by
  induction k with
  | zero =>
    intro v hv
    rw [enc_small (by omega)]
    simp
  | succ k ih =>
    intro v hv
    by_cases h : v < 32
    · rw [enc_small h]
      simp
    · rw [enc_big h]
      have := ih (v / 32) (by
        rw [Nat.div_lt_iff_lt_mul (by omega)]
        rwa [← Nat.pow_succ])
      simp only [List.length_cons]
      omega
theorem enc_all (v : Nat) : v < 32 ^ (enc v).length := by
  induction v using Nat.strongRecOn with
  | _ v ih =>
    by_cases h : v < 32
    · rw [enc_small h]
      simpa using h
    · rw [enc_big h]
      simp only [List.length_cons]
      have := ih (v / 32) (by omega)
      rw [Nat.pow_succ]
      rw [Nat.div_lt_iff_lt_mul (by omega)] at this
      exact this
/-- There are more digits just if something is left. -/
theorem enc_more (v : Nat) : ∀ j, j < (enc v).length → (0 < v / 32 ^ (j + 1) ↔ j + 1 < (enc v).length) := by
  induction v using Nat.strongRecOn with
  | _ v ih =>
    intro j hj
    by_cases h : v < 32
    · rw [enc_small h] at hj ⊢
      simp only [List.length_cons, List.length_nil] at hj ⊢
      obtain rfl : j = 0 := by omega
      simp only [Nat.zero_add, Nat.pow_one]
      omega
    · rw [enc_big h] at hj ⊢
      simp only [List.length_cons] at hj ⊢
      cases j with
      | zero =>
        have := enc_pos (v / 32)
        simp only [Nat.zero_add, Nat.pow_one]
        omega
      | succ j =>
        have h1 := ih (v / 32) (by omega) j (by omega)
        rw [Nat.div_div_eq_div_mul] at h1
        rw [show 32 ^ (j + 1 + 1) = 32 * 32 ^ (j + 1) from by rw [Nat.pow_succ, Nat.mul_comm]]
        omega
/-- One digit more: the low bits grow by it. -/
theorem low_succ (v j : Nat) : v % 32 ^ (j + 1) = v % 32 ^ j + v / 32 ^ j % 32 * 32 ^ j := by
  rw [Nat.pow_succ, Nat.mod_mul, Nat.mul_comm (32 ^ j)]
/-- The alphabet, as bytes. -/
def letters : ByteArray := ⟨#[65, 66, 67, 68, 69, 70, 71, 72, 73, 74, 75, 76, 77, 78, 79, 80, 81, 82, 83, 84, 85, 86, 87, 88, 89, 90, 97, 98, 99, 100, 101, 102, 103, 104, 105, 106, 107, 108, 109, 110, 111, 112, 113, 114, 115, 116, 117, 118, 119, 120, 121, 122, 48, 49, 50, 51, 52, 53, 54, 55, 56, 57, 43, 47]⟩
def alpha (d : Nat) : UInt8 := letters.data.toList.getD d 0
/-- The text of digits. -/
def txt (l : List Nat) : List UInt8 := l.map alpha
/-- The number that is written: the sign below. -/
def signed (n : Int) : Nat := if n < 0 then (-n).toNat * 2 + 1 else n.toNat * 2
end Go.Proofs.Ytdcojgkblfobnaa.Vlq
