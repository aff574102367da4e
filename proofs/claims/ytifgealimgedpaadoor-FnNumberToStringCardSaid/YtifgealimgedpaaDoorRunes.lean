/- Code points of a text: what the reference reads at a byte, told by the model's own decoding. No program in sight. -/
import Derived.Below
import Derived.Laws.RangeAny
namespace Go.Proofs.YtifgealimgedpaaDoor.Runes
/-- Byte i of a text, as a number (0 behind its end). -/
def byt (s : ByteArray) (i : Nat) : Nat := (s.get! i).toNat
theorem byt_lt (s : ByteArray) (i : Nat) : byt s i < 256 := (s.get! i).toNat_lt
theorem byt_eq (s : ByteArray) (i : Nat) (h : i < s.size) : byt s i = (s[i]'h).toNat := by
  have := get_at s i h
  rw [Nat.add_zero] at this
  rw [byt, this]
/-- What the reference reads: the code point and how many bytes it has; 0 bytes: there is none. -/
def rune (s : ByteArray) (i : Nat) : Nat × Nat := if i < s.size ∧ Utf8.decode s i ≠ (65533, 1) then Utf8.decode s i else (0, 0)
theorem decode_eq (s : ByteArray) (i : Nat) : Utf8.decode s i =
    if byt s i < 128 then (byt s i, 1)
    else if byt s i / 32 = 6 ∧ i + 1 < s.size ∧ byt s (i + 1) / 64 = 2 then
      if 128 ≤ byt s i % 32 * 64 + byt s (i + 1) % 64 then (byt s i % 32 * 64 + byt s (i + 1) % 64, 2) else (65533, 1)
    else if byt s i / 16 = 14 ∧ (i + 1 < s.size ∧ byt s (i + 1) / 64 = 2) ∧ (i + 2 < s.size ∧ byt s (i + 2) / 64 = 2) then
      if 2048 ≤ byt s i % 16 * 4096 + byt s (i + 1) % 64 * 64 + byt s (i + 2) % 64 ∧ (byt s i % 16 * 4096 + byt s (i + 1) % 64 * 64 + byt s (i + 2) % 64 < 55296 ∨ 57344 ≤ byt s i % 16 * 4096 + byt s (i + 1) % 64 * 64 + byt s (i + 2) % 64) then (byt s i % 16 * 4096 + byt s (i + 1) % 64 * 64 + byt s (i + 2) % 64, 3) else (65533, 1)
    else if byt s i / 8 = 30 ∧ (i + 1 < s.size ∧ byt s (i + 1) / 64 = 2) ∧ (i + 2 < s.size ∧ byt s (i + 2) / 64 = 2) ∧ (i + 3 < s.size ∧ byt s (i + 3) / 64 = 2) then
      if 65536 ≤ byt s i % 8 * 262144 + byt s (i + 1) % 64 * 4096 + byt s (i + 2) % 64 * 64 + byt s (i + 3) % 64 ∧ byt s i % 8 * 262144 + byt s (i + 1) % 64 * 4096 + byt s (i + 2) % 64 * 64 + byt s (i + 3) % 64 ≤ 1114111 then (byt s i % 8 * 262144 + byt s (i + 1) % 64 * 4096 + byt s (i + 2) % 64 * 64 + byt s (i + 3) % 64, 4) else (65533, 1)
    else (65533, 1) := by
  have e0 : (s.get! (i + 0)).toNat = byt s i := rfl
  have e1 : ∀ k, (s.get! (i + k)).toNat = byt s (i + k) := fun _ => rfl
  have h0 := byt_lt s i
  have h1 := byt_lt s (i + 1)
  have h2 := byt_lt s (i + 2)
  have h3 := byt_lt s (i + 3)
  unfold Utf8.decode
  simp only [e0, e1, Utf8.runeError, Utf8.valid, Bool.and_eq_true, decide_eq_true_eq, beq_iff_eq, Bool.or_eq_true, ge_iff_le, and_assoc]
  generalize byt s i = b0 at *
  generalize byt s (i + 1) = b1 at *
  generalize byt s (i + 2) = b2 at *
  generalize byt s (i + 3) = b3 at *
  split
  · rfl
  split
  · rfl
  split
  · split
    · rename_i hh
      rw [if_pos]
      omega
    · rename_i hh
      rw [if_neg]
      omega
  split
  · split
    · rename_i hh
      rw [if_pos]
      omega
    · rename_i hh
      rw [if_neg]
      omega
  rfl
theorem rune_out (s : ByteArray) (i : Nat) (h : s.size ≤ i) : rune s i = (0, 0) := if_neg (by omega)
theorem rune_ascii (s : ByteArray) (i : Nat) (h : i < s.size) (hb : byt s i < 128) : rune s i = (byt s i, 1) := by
  have e : Utf8.decode s i = (byt s i, 1) := by rw [decode_eq, if_pos hb]
  rw [rune, if_pos ⟨h, by rw [e]; intro h; injection h; omega⟩, e]
theorem rune_two (s : ByteArray) (i : Nat) (h : i + 1 < s.size) (h0 : 194 ≤ byt s i) (h1 : byt s i ≤ 223) (c1 : byt s (i + 1) / 64 = 2) : rune s i = (byt s i % 32 * 64 + byt s (i + 1) % 64, 2) := by
  have e : Utf8.decode s i = (byt s i % 32 * 64 + byt s (i + 1) % 64, 2) := by
    rw [decode_eq, if_neg (by omega), if_pos ⟨by omega, h, c1⟩, if_pos (by omega)]
  rw [rune, if_pos ⟨by omega, by rw [e]; intro h; injection h; omega⟩, e]
theorem rune_three (s : ByteArray) (i : Nat) (h : i + 2 < s.size) (h0 : 224 ≤ byt s i) (h1 : byt s i ≤ 239) (c1 : byt s (i + 1) / 64 = 2) (c2 : byt s (i + 2) / 64 = 2)
    (l : 2048 ≤ byt s i % 16 * 4096 + byt s (i + 1) % 64 * 64 + byt s (i + 2) % 64) (v : byt s i % 16 * 4096 + byt s (i + 1) % 64 * 64 + byt s (i + 2) % 64 < 55296 ∨ 57344 ≤ byt s i % 16 * 4096 + byt s (i + 1) % 64 * 64 + byt s (i + 2) % 64) :
    rune s i = (byt s i % 16 * 4096 + byt s (i + 1) % 64 * 64 + byt s (i + 2) % 64, 3) := by
  have e : Utf8.decode s i = (byt s i % 16 * 4096 + byt s (i + 1) % 64 * 64 + byt s (i + 2) % 64, 3) := by
    rw [decode_eq, if_neg (by omega), if_neg (by omega), if_pos ⟨by omega, ⟨by omega, c1⟩, h, c2⟩, if_pos ⟨l, v⟩]
  rw [rune, if_pos ⟨by omega, by rw [e]; intro h; injection h; omega⟩, e]
theorem rune_four (s : ByteArray) (i : Nat) (h : i + 3 < s.size) (h0 : 240 ≤ byt s i) (h1 : byt s i ≤ 244) (c1 : byt s (i + 1) / 64 = 2) (c2 : byt s (i + 2) / 64 = 2) (c3 : byt s (i + 3) / 64 = 2)
    (l : 65536 ≤ byt s i % 8 * 262144 + byt s (i + 1) % 64 * 4096 + byt s (i + 2) % 64 * 64 + byt s (i + 3) % 64) (v : byt s i % 8 * 262144 + byt s (i + 1) % 64 * 4096 + byt s (i + 2) % 64 * 64 + byt s (i + 3) % 64 ≤ 1114111) :
    rune s i = (byt s i % 8 * 262144 + byt s (i + 1) % 64 * 4096 + byt s (i + 2) % 64 * 64 + byt s (i + 3) % 64, 4) := by
  have e : Utf8.decode s i = (byt s i % 8 * 262144 + byt s (i + 1) % 64 * 4096 + byt s (i + 2) % 64 * 64 + byt s (i + 3) % 64, 4) := by
    rw [decode_eq, if_neg (by omega), if_neg (by omega), if_neg (by omega), if_pos ⟨by omega, ⟨by omega, c1⟩, ⟨by omega, c2⟩, h, c3⟩, if_pos ⟨l, v⟩]
  rw [rune, if_pos ⟨by omega, by rw [e]; intro h; injection h; omega⟩, e]
theorem rune_bad (s : ByteArray) (i : Nat) (e : Utf8.decode s i = (65533, 1)) : rune s i = (0, 0) := if_neg (fun h => h.2 e)
/-- The ways on which there is none. -/
theorem none_head (s : ByteArray) (i : Nat) (h : 128 ≤ byt s i) (h' : byt s i < 194 ∨ 245 ≤ byt s i) : rune s i = (0, 0) := by
  refine rune_bad s i ?_
  have := byt_lt s i
  rw [decode_eq, if_neg (by omega)]
  by_cases c : byt s i / 32 = 6 ∧ i + 1 < s.size ∧ byt s (i + 1) / 64 = 2
  · rw [if_pos c, if_neg (by omega)]
  · rw [if_neg c, if_neg (by omega)]
    split
    · rw [if_neg (by omega)]
    · rfl
theorem none_two (s : ByteArray) (i : Nat) (h0 : 194 ≤ byt s i) (h1 : byt s i ≤ 223) (h : s.size ≤ i + 1 ∨ byt s (i + 1) / 64 ≠ 2) : rune s i = (0, 0) := by
  refine rune_bad s i ?_
  rw [decode_eq, if_neg (by omega), if_neg (by omega), if_neg (by omega), if_neg (by omega)]
theorem none_three (s : ByteArray) (i : Nat) (h0 : 224 ≤ byt s i) (h1 : byt s i ≤ 239) (h : s.size ≤ i + 2 ∨ byt s (i + 1) / 64 ≠ 2 ∨ byt s (i + 2) / 64 ≠ 2) : rune s i = (0, 0) := by
  refine rune_bad s i ?_
  rw [decode_eq, if_neg (by omega), if_neg (by omega), if_neg (by omega), if_neg (by omega)]
theorem none_three' (s : ByteArray) (i : Nat) (h0 : 224 ≤ byt s i) (h1 : byt s i ≤ 239) (h : byt s i % 16 * 4096 + byt s (i + 1) % 64 * 64 + byt s (i + 2) % 64 < 2048 ∨ (55296 ≤ byt s i % 16 * 4096 + byt s (i + 1) % 64 * 64 + byt s (i + 2) % 64 ∧ byt s i % 16 * 4096 + byt s (i + 1) % 64 * 64 + byt s (i + 2) % 64 ≤ 57343)) : rune s i = (0, 0) := by
  refine rune_bad s i ?_
  rw [decode_eq, if_neg (by omega), if_neg (by omega)]
  split
  · rw [if_neg (by omega)]
  · rw [if_neg (by omega)]
theorem none_four (s : ByteArray) (i : Nat) (h0 : 240 ≤ byt s i) (h1 : byt s i ≤ 244) (h : s.size ≤ i + 3 ∨ byt s (i + 1) / 64 ≠ 2 ∨ byt s (i + 2) / 64 ≠ 2 ∨ byt s (i + 3) / 64 ≠ 2) : rune s i = (0, 0) := by
  refine rune_bad s i ?_
  rw [decode_eq, if_neg (by omega), if_neg (by omega), if_neg (by omega), if_neg (by omega)]
theorem none_four' (s : ByteArray) (i : Nat) (h0 : 240 ≤ byt s i) (h1 : byt s i ≤ 244) (h : byt s i % 8 * 262144 + byt s (i + 1) % 64 * 4096 + byt s (i + 2) % 64 * 64 + byt s (i + 3) % 64 < 65536 ∨ 1114111 < byt s i % 8 * 262144 + byt s (i + 1) % 64 * 4096 + byt s (i + 2) % 64 * 64 + byt s (i + 3) % 64) : rune s i = (0, 0) := by
  refine rune_bad s i ?_
  rw [decode_eq, if_neg (by omega), if_neg (by omega), if_neg (by omega)]
  split
  · rw [if_neg (by omega)]
  · rfl
/-- What a code point's reading says of it. -/
theorem rune_pos {s : ByteArray} {i r n : Nat} (h : rune s i = (r, n)) (hn : 0 < n) : i < s.size ∧ Utf8.decode s i = (r, n) ∧ n ≤ 4 ∧ i + n ≤ s.size ∧ (r < 128 ↔ n = 1) ∧ r ≤ 1114111 ∧ (n = 1 → r = byt s i) ∧ ¬ (55296 ≤ r ∧ r ≤ 57343) := by
  unfold rune at h
  split at h
  · rename_i hc
    refine ⟨hc.1, h, ?_⟩
    have h2 := hc.2
    rw [h] at h2
    rw [decode_eq] at h
    have b0 := byt_lt s i
    have b1 := byt_lt s (i + 1)
    have b2 := byt_lt s (i + 2)
    have b3 := byt_lt s (i + 3)
    repeat' split at h
    all_goals
      injection h with ha hb
      first
        | omega
        | (exfalso; exact h2 (by rw [← ha, ← hb]))
  · injection h with _ h
    omega
theorem decode_of (s : ByteArray) (i : Nat) (h : i < s.size) : (0 < (rune s i).2 ∧ Utf8.decode s i = rune s i) ∨ (rune s i = (0, 0) ∧ Utf8.decode s i = (65533, 1)) := by
  by_cases e : Utf8.decode s i = (65533, 1)
  · exact .inr ⟨rune_bad s i e, e⟩
  · have hr : rune s i = Utf8.decode s i := if_pos ⟨h, e⟩
    refine .inl ⟨?_, hr.symm⟩
    rw [hr]
    by_cases ha : (s[i]'h).toNat < 128
    · rw [decode_ascii s i h ha]
      exact Nat.zero_lt_one
    · exact (decode_high s i h (by omega)).2
end Go.Proofs.YtifgealimgedpaaDoor.Runes
