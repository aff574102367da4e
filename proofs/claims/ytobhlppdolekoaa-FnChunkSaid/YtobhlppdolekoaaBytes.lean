/- Code points of a text: what the reference reads at a byte, told by the model's own decoding. No program in sight. -/
import Derived.Below
import Derived.Laws.RangeAny
import Derived.Lib.Builder
import Derived.Lib.AppendStr
import Derived.Lib.UnsafeStr
namespace Go.Proofs.Ytobhlppdolekoaa.Runes
/-- Byte i of a text, as a number (0 behind its end). -/
def byt (s : ByteArray) (i : Nat) : Nat := (s.get! i).toNat
theorem byt_lt (s : ByteArray) (i : Nat) : byt s i < 256 := (s.get! i).toNat_lt
theorem byt_eq (s : ByteArray) (i : Nat) (h : i < s.size) : byt s i = (s[i]'h).toNat := by
  have := get_at s i h
  rw [Nat.add_zero] at this
  rw [byt, this]
/-- What the reference reads: the code point and how many bytes it has; 0 bytes: there is none. -/
def rune (s : ByteArray) (i : Nat) : Nat × Nat := if i < s.size ∧ Utf8.decode s i ≠ (65533, 1) then Utf8.decode s i else (0, 0)
theorem decode_eq (s : ByteArray) (i : Nat) : Utf8.decode s i =
    if byt s i < 128 then (byt s i, 1)
    else if byt s i / 32 = 6 ∧ i + 1 < s.size ∧ byt s (i + 1) / 64 = 2 then
      if 128 ≤ byt s i % 32 * 64 + byt s (i + 1) % 64 then (byt s i % 32 * 64 + byt s (i + 1) % 64, 2) else (65533, 1)
    else if byt s i / 16 = 14 ∧ (i + 1 < s.size ∧ byt s (i + 1) / 64 = 2) ∧ (i + 2 < s.size ∧ byt s (i + 2) / 64 = 2) then
      if 2048 ≤ byt s i % 16 * 4096 + byt s (i + 1) % 64 * 64 + byt s (i + 2) % 64 ∧ (byt s i % 16 * 4096 + byt s (i + 1) % 64 * 64 + byt s (i + 2) % 64 < 55296 ∨ 57344 ≤ byt s i % 16 * 4096 + byt s (i + 1) % 64 * 64 + byt s (i + 2) % 64) then (byt s i % 16 * 4096 + byt s (i + 1) % 64 * 64 + byt s (i + 2) % 64, 3) else (65533, 1)
    else if byt s i / 8 = 30 ∧ (i + 1 < s.size ∧ byt s (i + 1) / 64 = 2) ∧ (i + 2 < s.size ∧ byt s (i + 2) / 64 = 2) ∧ (i + 3 < s.size ∧ byt s (i + 3) / 64 = 2) then
      if 65536 ≤ byt s i % 8 * 262144 + byt s (i + 1) % 64 * 4096 + byt s (i + 2) % 64 * 64 + byt s (i + 3) % 64 ∧ byt s i % 8 * 262144 + byt s (i + 1) % 64 * 4096 + byt s (i + 2) % 64 * 64 + byt s (i + 3) % 64 ≤ 1114111 then (byt s i % 8 * 262144 + byt s (i + 1) % 64 * 4096 + byt s (i + 2) % 64 * 64 + byt s (i + 3) % 64, 4) else (65533, 1)
    else (65533, 1) := by
  have e0 : (s.get! (i + 0)).toNat = byt s i := rfl
  have e1 : ∀ k, (s.get! (i + k)).toNat = byt s (i + k) := fun _ => rfl
  have h0 := byt_lt s i
  have h1 := byt_lt s (i + 1)
  have h2 := byt_lt s (i + 2)
  have h3 := byt_lt s (i + 3)
  unfold Utf8.decode
  simp only [e0, e1, Utf8.runeError, Utf8.valid, Bool.and_eq_true, decide_eq_true_eq, beq_iff_eq, Bool.or_eq_true, ge_iff_le, and_assoc]
  generalize byt s i = b0 at *
  generalize byt s (i + 1) = b1 at *
  generalize byt s (i + 2) = b2 at *
  generalize byt s (i + 3) = b3 at *
  split
  · rfl
  split
  · rfl
  split
  · split
    · rename_i hh
      rw [if_pos]
      omega
    · rename_i hh
      rw [if_neg]
      omega
  split
  · split
    · rename_i hh
      rw [if_pos]
      omega
    · rename_i hh
      rw [if_neg]
      omega
  rfl
theorem rune_out (s : ByteArray) (i : Nat) (h : s.size ≤ i) : rune s i = (0, 0) := if_neg (by omega)
theorem rune_ascii (s : ByteArray) (i : Nat) (h : i < s.size) (hb : byt s i < 128) : rune s i = (byt s i, 1) := by
  have e : Utf8.decode s i = (byt s i, 1) := by rw [decode_eq, if_pos hb]
  rw [rune, if_pos ⟨h, by rw [e]; intro h; injection h; omega⟩, e]
theorem rune_two (s : ByteArray) (i : Nat) (h : i + 1 < s.size) (h0 : 194 ≤ byt s i) (h1 : byt s i ≤ 223) (c1 : byt s (i + 1) / 64 = 2) : rune s i = (byt s i % 32 * 64 + byt s (i + 1) % 64, 2) := by
  have e : Utf8.decode s i = (byt s i % 32 * 64 + byt s (i + 1) % 64, 2) := by
    rw [decode_eq, if_neg (by omega), if_pos ⟨by omega, h, c1⟩, if_pos (by omega)]
  rw [rune, if_pos ⟨by omega, by rw [e]; intro h; injection h; omega⟩, e]
theorem rune_three (s : ByteArray) (i : Nat) (h : i + 2 < s.size) (h0 : 224 ≤ byt s i) (h1 : byt s i ≤ 239) (c1 : byt s (i + 1) / 64 = 2) (c2 : byt s (i + 2) / 64 = 2)
    (l : 2048 ≤ byt s i % 16 * 4096 + byt s (i + 1) % 64 * 64 + byt s (i + 2) % 64) (v : byt s i % 16 * 4096 + byt s (i + 1) % 64 * 64 + byt s (i + 2) % 64 < 55296 ∨ 57344 ≤ byt s i % 16 * 4096 + byt s (i + 1) % 64 * 64 + byt s (i + 2) % 64) :
    rune s i = (byt s i % 16 * 4096 + byt s (i + 1) % 64 * 64 + byt s (i + 2) % 64, 3) := by
  have e : Utf8.decode s i = (byt s i % 16 * 4096 + byt s (i + 1) % 64 * 64 + byt s (i + 2) % 64, 3) := by
    rw [decode_eq, if_neg (by omega), if_neg (by omega), if_pos ⟨by omega, ⟨by omega, c1⟩, h, c2⟩, if_pos ⟨l, v⟩]
  rw [rune, if_pos ⟨by omega, by rw [e]; intro h; injection h; omega⟩, e]
theorem rune_four (s : ByteArray) (i : Nat) (h : i + 3 < s.size) (h0 : 240 ≤ byt s i) (h1 : byt s i ≤ 244) (c1 : byt s (i + 1) / 64 = 2) (c2 : byt s (i + 2) / 64 = 2) (c3 : byt s (i + 3) / 64 = 2)
    (l : 65536 ≤ byt s i % 8 * 262144 + byt s (i + 1) % 64 * 4096 + byt s (i + 2) % 64 * 64 + byt s (i + 3) % 64) (v : byt s i % 8 * 262144 + byt s (i + 1) % 64 * 4096 + byt s (i + 2) % 64 * 64 + byt s (i + 3) % 64 ≤ 1114111) :
    rune s i = (byt s i % 8 * 262144 + byt s (i + 1) % 64 * 4096 + byt s (i + 2) % 64 * 64 + byt s (i + 3) % 64, 4) := by
  have e : Utf8.decode s i = (byt s i % 8 * 262144 + byt s (i + 1) % 64 * 4096 + byt s (i + 2) % 64 * 64 + byt s (i + 3) % 64, 4) := by
    rw [decode_eq, if_neg (by omega), if_neg (by omega), if_neg (by omega), if_pos ⟨by omega, ⟨by omega, c1⟩, ⟨by omega, c2⟩, h, c3⟩, if_pos ⟨l, v⟩]
  rw [rune, if_pos ⟨by omega, by rw [e]; intro h; injection h; omega⟩, e]
theorem rune_bad (s : ByteArray) (i : Nat) (e : Utf8.decode s i = (65533, 1)) : rune s i = (0, 0) := if_neg (fun h => h.2 e)
/-- The ways on which there is none. -/
theorem none_head (s : ByteArray) (i : Nat) (h : 128 ≤ byt s i) (h' : byt s i < 194 ∨ 245 ≤ byt s i) : rune s i = (0, 0) := by
  refine rune_bad s i ?_
  have := byt_lt s i
  rw [decode_eq, if_neg (by omega)]
  by_cases c : byt s i / 32 = 6 ∧ i + 1 < s.size ∧ byt s (i + 1) / 64 = 2
  · rw [if_pos c, if_neg (by omega)]
  · rw [if_neg c, if_neg (by omega)]
    split
    · rw [if_neg (by omega)]
    · rfl
theorem none_two (s : ByteArray) (i : Nat) (h0 : 194 ≤ byt s i) (h1 : byt s i ≤ 223) (h : s.size ≤ i + 1 ∨ byt s (i + 1) / 64 ≠ 2) : rune s i = (0, 0) := by
  refine rune_bad s i ?_
  rw [decode_eq, if_neg (by omega), if_neg (by omega), if_neg (by omega), if_neg (by omega)]
theorem none_three (s : ByteArray) (i : Nat) (h0 : 224 ≤ byt s i) (h1 : byt s i ≤ 239) (h : s.size ≤ i + 2 ∨ byt s (i + 1) / 64 ≠ 2 ∨ byt s (i + 2) / 64 ≠ 2) : rune s i = (0, 0) := by
  refine rune_bad s i ?_
  rw [decode_eq, if_neg (by omega), if_neg (by omega), if_neg (by omega), if_neg (by omega)]
theorem none_three' (s : ByteArray) (i : Nat) (h0 : 224 ≤ byt s i) (h1 : byt s i ≤ 239) (h : byt s i % 16 * 4096 + byt s (i + 1) % 64 * 64 + byt s (i + 2) % 64 < 2048 ∨ (55296 ≤ byt s i % 16 * 4096 + byt s (i + 1) % 64 * 64 + byt s (i + 2) % 64 ∧ byt s i % 16 * 4096 + byt s (i + 1) % 64 * 64 + byt s (i + 2) % 64 ≤ 57343)) : rune s i = (0, 0) := by
  refine rune_bad s i ?_
  rw [decode_eq, if_neg (by omega), if_neg (by omega)]
  split
  · rw [if_neg (by omega)]
  · rw [if_neg (by omega)]
theorem none_four (s : ByteArray) (i : Nat) (h0 : 240 ≤ byt s i) (h1 : byt s i ≤ 244) (h : s.size ≤ i + 3 ∨ byt s (i + 1) / 64 ≠ 2 ∨ byt s (i + 2) / 64 ≠ 2 ∨ byt s (i + 3) / 64 ≠ 2) : rune s i = (0, 0) := by
  refine rune_bad s i ?_
  rw [decode_eq, if_neg (by omega), if_neg (by omega), if_neg (by omega), if_neg (by omega)]
theorem none_four' (s : ByteArray) (i : Nat) (h0 : 240 ≤ byt s i) (h1 : byt s i ≤ 244) (h : byt s i % 8 * 262144 + byt s (i + 1) % 64 * 4096 + byt s (i + 2) % 64 * 64 + byt s (i + 3) % 64 < 65536 ∨ 1114111 < byt s i % 8 * 262144 + byt s (i + 1) % 64 * 4096 + byt s (i + 2) % 64 * 64 + byt s (i + 3) % 64) : rune s i = (0, 0) := by
  refine rune_bad s i ?_
  rw [decode_eq, if_neg (by omega), if_neg (by omega), if_neg (by omega)]
  split
  · rw [if_neg (by omega)]
  · rfl
/-- What a code point's reading says of it. -/
theorem rune_pos {s : ByteArray} {i r n : Nat} (h : rune s i = (r, n)) (hn : 0 < n) : i < s.size ∧ Utf8.decode s i = (r, n) ∧ n ≤ 4 ∧ i + n ≤ s.size ∧ (r < 128 ↔ n = 1) ∧ r ≤ 1114111 ∧ (n = 1 → r = byt s i) ∧ ¬ (55296 ≤ r ∧ r ≤ 57343) := by
  unfold rune at h
  split at h
  · rename_i hc
    refine ⟨hc.1, h, ?_⟩
    have h2 := hc.2
    rw [h] at h2
    rw [decode_eq] at h
    have b0 := byt_lt s i
    have b1 := byt_lt s (i + 1)
    have b2 := byt_lt s (i + 2)
    have b3 := byt_lt s (i + 3)
    repeat' split at h
    all_goals
      injection h with ha hb
      first
        | omega
        | (exfalso; exact h2 (by rw [← ha, ← hb]))
  · injection h with _ h
    omega
theorem decode_of (s : ByteArray) (i : Nat) (h : i < s.size) : (0 < (rune s i).2 ∧ Utf8.decode s i = rune s i) ∨ (rune s i = (0, 0) ∧ Utf8.decode s i = (65533, 1)) := by
  by_cases e : Utf8.decode s i = (65533, 1)
  · exact .inr ⟨rune_bad s i e, e⟩
  · have hr : rune s i = Utf8.decode s i := if_pos ⟨h, e⟩
    refine .inl ⟨?_, hr.symm⟩
    rw [hr]
    by_cases ha : (s[i]'h).toNat < 128
    · rw [decode_ascii s i h ha]
      exact Nat.zero_lt_one
    · exact (decode_high s i h (by omega)).2
end Go.Proofs.Ytobhlppdolekoaa.Runes
/- Places in a text: lines and columns over its code points, as the package counts and as the reference does; two texts one behind the other. No program in sight. -/
namespace Go.Proofs.Ytobhlppdolekoaa.Runes
set_option linter.unusedVariables false
/-- What ends lines. -/
def lineEnd (r : Nat) : Bool := decide (r = 10) || decide (r = 13) || decide (r = 8232) || decide (r = 8233)
theorem wf_dec {s : ByteArray} {i : Nat} (h : i < s.size) (h' : 0 < (rune s i).2) : s.size - (i + (rune s i).2) < s.size - i := by omega
/-- The rest of a text is well formed. -/
def wf (s : ByteArray) (i : Nat) : Bool := if h : i < s.size then (if h' : 0 < (rune s i).2 then wf s (i + (rune s i).2) else false) else true
termination_by s.size - i
decreasing_by exact wf_dec h h'
theorem wf_end {s : ByteArray} {i : Nat} (h : ¬ i < s.size) : wf s i = true := by rw [wf, dif_neg h]
theorem wf_next {s : ByteArray} {i : Nat} (h : i < s.size) (h' : 0 < (rune s i).2) : wf s i = wf s (i + (rune s i).2) := by rw [wf, dif_pos h, dif_pos h']
theorem wf_no {s : ByteArray} {i : Nat} (h : i < s.size) (h' : (rune s i).2 = 0) : wf s i = false := by rw [wf, dif_pos h, dif_neg (by omega)]
theorem wf_pos {s : ByteArray} {i : Nat} (h : i < s.size) (h' : wf s i = true) : 0 < (rune s i).2 := by
  rcases Nat.eq_zero_or_pos (rune s i).2 with e | e
  · rw [wf_no h e] at h'
    cases h'
  · exact e
/-- A place moved on by a code point: the reference's count. -/
def stepS (s : ByteArray) (i : Nat) (x : Nat × Nat) (p : Nat × Nat) : Nat × Nat :=
  if x.1 = 13 ∧ i + x.2 < s.size ∧ byt s (i + x.2) = 10 then p else if lineEnd x.1 = true then (p.1 + 1, 0) else if 65535 < x.1 then (p.1, p.2 + 2) else (p.1, p.2 + 1)
/-- The package's count: the CR ahead of a LF has a column. -/
def stepG (s : ByteArray) (i : Nat) (x : Nat × Nat) (p : Nat × Nat) : Nat × Nat :=
  if x.1 = 13 ∧ i + x.2 < s.size ∧ byt s (i + x.2) = 10 then (p.1, p.2 + 1) else if lineEnd x.1 = true then (p.1 + 1, 0) else if 65535 < x.1 then (p.1, p.2 + 2) else (p.1, p.2 + 1)
def places (s : ByteArray) (i : Nat) (p : Nat × Nat) : Nat × Nat := if h : i < s.size ∧ 0 < (rune s i).2 then places s (i + (rune s i).2) (stepS s i (rune s i) p) else p
termination_by s.size - i
decreasing_by exact wf_dec h.1 h.2
def adv (s : ByteArray) (i : Nat) (p : Nat × Nat) : Nat × Nat := if h : i < s.size ∧ 0 < (rune s i).2 then adv s (i + (rune s i).2) (stepG s i (rune s i) p) else p
termination_by s.size - i
decreasing_by exact wf_dec h.1 h.2
theorem places_end {s : ByteArray} {i : Nat} {p : Nat × Nat} (h : ¬ i < s.size) : places s i p = p := by rw [places, dif_neg (fun k => h k.1)]
theorem adv_end {s : ByteArray} {i : Nat} {p : Nat × Nat} (h : ¬ i < s.size) : adv s i p = p := by rw [adv, dif_neg (fun k => h k.1)]
theorem places_next {s : ByteArray} {i : Nat} {p : Nat × Nat} (h : i < s.size) (h' : 0 < (rune s i).2) : places s i p = places s (i + (rune s i).2) (stepS s i (rune s i) p) := by rw [places, dif_pos ⟨h, h'⟩]
theorem adv_next {s : ByteArray} {i : Nat} {p : Nat × Nat} (h : i < s.size) (h' : 0 < (rune s i).2) : adv s i p = adv s (i + (rune s i).2) (stepG s i (rune s i) p) := by rw [adv, dif_pos ⟨h, h'⟩]
/-- The package counts as the reference does. -/
theorem adv_places (s : ByteArray) (m : Nat) : ∀ (i l c c' : Nat), s.size - i = m → wf s i = true → (c = c' ∨ (i < s.size ∧ byt s i = 10)) → adv s i (l, c) = places s i (l, c') := by
  induction m using Nat.strongRecOn with
  | _ m ih =>
    intro i l c c' hm hw hc
    by_cases h : i < s.size
    · have hp := wf_pos h hw
      have hn := wf_next h hp
      rw [adv_next h hp, places_next h hp]
      have ho := rune_pos (s := s) (i := i) (r := (rune s i).1) (n := (rune s i).2) rfl hp
      generalize hx : rune s i = x at *
      obtain ⟨r, n⟩ := x
      simp only at ho hp hn
      by_cases h1 : r = 13 ∧ i + n < s.size ∧ byt s (i + n) = 10
      · rw [stepG, stepS, if_pos h1, if_pos h1]
        exact ih (s.size - (i + n)) (by omega) _ _ _ _ rfl (by rw [← hn]; exact hw) (.inr h1.2)
      · rw [stepG, stepS, if_neg h1, if_neg h1]
        by_cases h2 : lineEnd r = true
        · rw [if_pos h2, if_pos h2]
          exact ih (s.size - (i + n)) (by omega) _ _ _ _ rfl (by rw [← hn]; exact hw) (.inl rfl)
        · have hcc : c = c' := by
            rcases hc with hc | ⟨_, hb⟩
            · exact hc
            · exfalso
              have := rune_ascii s i h (by omega)
              rw [hx, hb] at this
              injection this with e1 e2
              subst e1
              exact h2 rfl
          subst hcc
          rw [if_neg h2]
          by_cases h3 : 65535 < r
          · rw [if_pos h3]
            exact ih (s.size - (i + n)) (by omega) _ _ _ _ rfl (by rw [← hn]; exact hw) (.inl rfl)
          · rw [if_neg h3]
            exact ih (s.size - (i + n)) (by omega) _ _ _ _ rfl (by rw [← hn]; exact hw) (.inl rfl)
    · rw [adv_end h, places_end h]
      rcases hc with hc | hc
      · rw [hc]
      · exact absurd hc.1 h
/-- A place behind another one. -/
def on (a b : Nat) (p : Nat × Nat) : Nat × Nat := (a + p.1, if p.1 = 0 then b + p.2 else p.2)
theorem stepS_on (s : ByteArray) (i : Nat) (x : Nat × Nat) (a b : Nat) (p : Nat × Nat) : stepS s i x (on a b p) = on a b (stepS s i x p) := by
  unfold stepS
  split
  · rfl
  split
  · simp [on, Nat.add_assoc]
  split
  · unfold on
    by_cases h : p.1 = 0 <;> simp [h, Nat.add_assoc]
  · unfold on
    by_cases h : p.1 = 0 <;> simp [h, Nat.add_assoc]
theorem places_on (s : ByteArray) (a b m : Nat) : ∀ (i : Nat) (p : Nat × Nat), s.size - i = m → places s i (on a b p) = on a b (places s i p) := by
  induction m using Nat.strongRecOn with
  | _ m ih =>
    intro i p hm
    by_cases h : i < s.size ∧ 0 < (rune s i).2
    · rw [places_next h.1 h.2, places_next (p := p) h.1 h.2, stepS_on]
      exact ih (s.size - (i + (rune s i).2)) (by omega) _ _ rfl
    · rw [places, dif_neg h, places, dif_neg h]
/-- Bytes of two texts, one behind the other. -/
theorem byt_left (s t : ByteArray) (i : Nat) (h : i < s.size) : byt (s ++ t) i = byt s i := by
  rw [byt_eq _ _ (by rw [ByteArray.size_append]; omega), byt_eq s i h, ByteArray.getElem_append_left h]
theorem byt_out (s : ByteArray) (i : Nat) (h : s.size ≤ i) : byt s i = 0 := by
  cases s with
  | mk d =>
    show (d[i]!).toNat = 0
    rw [getElem!_neg d i (Nat.not_lt.2 h)]
    rfl
theorem byt_right (s t : ByteArray) (i : Nat) : byt (s ++ t) (s.size + i) = byt t i := by
  by_cases h : i < t.size
  · rw [byt_eq _ _ (by rw [ByteArray.size_append]; omega), byt_eq t i h, ByteArray.getElem_append_right (by omega)]
    congr 2
    omega
  · rw [byt_out _ _ (by rw [ByteArray.size_append]; omega), byt_out _ _ (by omega)]
theorem rune_right (s t : ByteArray) (i : Nat) : rune (s ++ t) (s.size + i) = rune t i := by
  have e : Utf8.decode (s ++ t) (s.size + i) = Utf8.decode t i := by
    rw [decode_eq, decode_eq]
    simp only [Nat.add_assoc, byt_right, ByteArray.size_append, Nat.add_lt_add_iff_left]
  unfold rune
  rw [e]
  simp only [ByteArray.size_append, Nat.add_lt_add_iff_left]
theorem rune_left (s t : ByteArray) (i : Nat) (h : 0 < (rune s i).2) : rune (s ++ t) i = rune s i := by
  have ho := rune_pos (s := s) (i := i) (r := (rune s i).1) (n := (rune s i).2) rfl h
  have hd : Utf8.decode s i = rune s i := ho.2.1
  have hne : Utf8.decode s i ≠ (65533, 1) := by
    intro e
    rw [rune_bad s i e] at h
    exact absurd h (by simp)
  have e0 := byt_left s t i ho.1
  have e1 : i + 1 < s.size → byt (s ++ t) (i + 1) = byt s (i + 1) := byt_left s t (i + 1)
  have e2 : i + 2 < s.size → byt (s ++ t) (i + 2) = byt s (i + 2) := byt_left s t (i + 2)
  have e3 : i + 3 < s.size → byt (s ++ t) (i + 3) = byt s (i + 3) := byt_left s t (i + 3)
  have hsz : (s ++ t).size = s.size + t.size := ByteArray.size_append
  have hi := ho.1
  have e : Utf8.decode (s ++ t) i = Utf8.decode s i := by
    rw [decode_eq s i] at hne ⊢
    rw [decode_eq (s ++ t) i, e0, hsz]
    by_cases a : byt s i < 128
    · rw [if_pos a, if_pos a]
    rw [if_neg a] at hne ⊢
    rw [if_neg a]
    by_cases b : byt s i / 32 = 6 ∧ i + 1 < s.size ∧ byt s (i + 1) / 64 = 2
    · rw [e1 b.2.1, if_pos b, if_pos (by omega)]
    rw [if_neg b] at hne ⊢
    by_cases c : byt s i / 16 = 14 ∧ (i + 1 < s.size ∧ byt s (i + 1) / 64 = 2) ∧ (i + 2 < s.size ∧ byt s (i + 2) / 64 = 2)
    · rw [e1 c.2.1.1, e2 c.2.2.1, if_pos c, if_neg (by omega), if_pos (by omega)]
    rw [if_neg c] at hne ⊢
    by_cases d : byt s i / 8 = 30 ∧ (i + 1 < s.size ∧ byt s (i + 1) / 64 = 2) ∧ (i + 2 < s.size ∧ byt s (i + 2) / 64 = 2) ∧ (i + 3 < s.size ∧ byt s (i + 3) / 64 = 2)
    · rw [e1 d.2.1.1, e2 d.2.2.1.1, e3 d.2.2.2.1, if_pos d, if_neg (by omega), if_neg (by omega), if_pos (by omega)]
    · rw [if_neg d] at hne
      exact absurd rfl hne
  unfold rune
  rw [e, hsz, if_pos ⟨by omega, hne⟩, if_pos ⟨hi, hne⟩]
theorem places_right (s t : ByteArray) (m : Nat) : ∀ (i : Nat) (p : Nat × Nat), t.size - i = m → places (s ++ t) (s.size + i) p = places t i p := by
  induction m using Nat.strongRecOn with
  | _ m ih =>
    intro i p hm
    have hr := rune_right s t i
    have hsz : (s ++ t).size = s.size + t.size := ByteArray.size_append
    by_cases h : i < t.size ∧ 0 < (rune t i).2
    · rw [places_next (by omega) (by rw [hr]; exact h.2), places_next h.1 h.2, hr, Nat.add_assoc, ih (t.size - (i + (rune t i).2)) (by omega) _ _ rfl]
      congr 1
      unfold stepS
      rw [Nat.add_assoc, byt_right, hsz]
      simp only [Nat.add_lt_add_iff_left]
    · rw [places, dif_neg (by rw [hr, hsz]; omega), places, dif_neg h]
/-- CR LF is not parted. -/
def Whole (s t : ByteArray) : Prop := ¬ (0 < s.size ∧ byt s (s.size - 1) = 13 ∧ 0 < t.size ∧ byt t 0 = 10)
theorem places_left (s t : ByteArray) (hu : Whole s t) (m : Nat) : ∀ (i : Nat) (p : Nat × Nat), s.size - i = m → i ≤ s.size → wf s i = true → places (s ++ t) i p = places (s ++ t) s.size (places s i p) := by
  induction m using Nat.strongRecOn with
  | _ m ih =>
    intro i p hm hi hw
    have hsz : (s ++ t).size = s.size + t.size := ByteArray.size_append
    by_cases h : i < s.size
    · have hp := wf_pos h hw
      have hn := wf_next h hp
      have hr := rune_left s t i hp
      have ho := rune_pos (s := s) (i := i) (r := (rune s i).1) (n := (rune s i).2) rfl hp
      rw [places_next (by omega) (by rw [hr]; exact hp), places_next (s := s) h hp, hr, ih (s.size - (i + (rune s i).2)) (by omega) _ _ rfl ho.2.2.2.1 (by rw [← hn]; exact hw)]
      congr 2
      generalize rune s i = x at *
      obtain ⟨r, n⟩ := x
      unfold stepS
      simp only at ho ⊢
      by_cases hend : i + n < s.size
      · rw [byt_left s t _ hend, hsz]
        by_cases c : r = 13 ∧ i + n < s.size ∧ byt s (i + n) = 10
        · rw [if_pos c, if_pos (by omega)]
        · rw [if_neg c, if_neg (by omega)]
      · have he : i + n = s.size := by omega
        have hb : byt (s ++ t) (i + n) = byt t 0 := by
          have := byt_right s t 0
          rw [Nat.add_zero] at this
          rw [he, this]
        rw [hb, hsz, if_neg (c := r = 13 ∧ i + n < s.size ∧ byt s (i + n) = 10) (by omega), if_neg (c := r = 13 ∧ i + n < s.size + t.size ∧ byt t 0 = 10)]
        rintro ⟨h1, h2, h3⟩
        refine hu ⟨by omega, ?_, by omega, h3⟩
        have hn1 : n = 1 := ho.2.2.2.2.1.1 (by omega)
        have := ho.2.2.2.2.2.2.1 hn1
        rw [← he, hn1, Nat.add_sub_cancel, ← this, h1]
    · have : i = s.size := by omega
      subst this
      rw [places_end (s := s) h]
/-- How far a place can be. -/
theorem places_le (s : ByteArray) (m : Nat) : ∀ (i : Nat) (p : Nat × Nat), s.size - i = m → i ≤ s.size → p.1 ≤ i → p.2 ≤ 2 * i → (places s i p).1 ≤ s.size ∧ (places s i p).2 ≤ 2 * s.size := by
  induction m using Nat.strongRecOn with
  | _ m ih =>
    intro i p hm hi h1 h2
    by_cases h : i < s.size ∧ 0 < (rune s i).2
    · have ho := rune_pos (s := s) (i := i) (r := (rune s i).1) (n := (rune s i).2) rfl h.2
      rw [places_next h.1 h.2]
      generalize rune s i = x at *
      refine ih (s.size - (i + x.2)) (by omega) _ _ rfl ho.2.2.2.1 ?_ ?_
      · unfold stepS
        repeat' split
        all_goals first | omega | (simp only; omega)
      · unfold stepS
        repeat' split
        all_goals first | omega | (simp only; omega)
    · rw [places, dif_neg h]
      omega
/-- The law. -/
theorem places_append (s t : ByteArray) (hs : wf s 0 = true) (hu : Whole s t) : places (s ++ t) 0 (0, 0) = on (places s 0 (0, 0)).1 (places s 0 (0, 0)).2 (places t 0 (0, 0)) := by
  rw [places_left s t hu s.size 0 _ rfl (Nat.zero_le _) hs]
  have h1 := places_right s t t.size 0 (places s 0 (0, 0)) rfl
  rw [Nat.add_zero] at h1
  rw [h1, ← places_on t _ _ t.size 0 (0, 0) rfl]
  rfl
end Go.Proofs.Ytobhlppdolekoaa.Runes
/- Texts as lists of bytes, and as cells; pieces of them. No program in sight. -/
namespace Go.Proofs.Ytobhlppdolekoaa.Bytes
open Go.Proofs.Ytobhlppdolekoaa.Runes
set_option linter.unusedVariables false
/-- A text's bytes as numbers; bytes as a text; bytes as cells. -/
def nats (s : ByteArray) : List Nat := s.data.toList.map UInt8.toNat
def str (l : List Nat) : ByteArray := ⟨(l.map UInt8.ofNat).toArray⟩
def ncells (l : List Nat) : List Value := l.map fun (n : Nat) => .int .u8 (n : Int)
theorem nats_length (s : ByteArray) : (nats s).length = s.size := by
  rw [nats, List.length_map, Array.length_toList]
  rfl
theorem nats_get (s : ByteArray) (i : Nat) (h : i < s.size) : (nats s)[i]? = some (byt s i) := by
  rw [byt_eq s i h, nats, List.getElem?_map]
  have : s.data.toList[i]? = some (s[i]'h) := by
    rw [Array.getElem?_toList, Array.getElem?_eq_getElem h]
    rfl
  rw [this]
  rfl
theorem nats_lt (s : ByteArray) : ∀ b ∈ nats s, b < 256 := by
  intro b hb
  simp only [nats, List.mem_map] at hb
  obtain ⟨x, _, rfl⟩ := hb
  exact x.toNat_lt
theorem nats_str (l : List Nat) (h : ∀ b ∈ l, b < 256) : nats (str l) = l := by
  simp only [nats, str, List.map_map]
  conv => rhs; rw [← List.map_id l]
  refine List.map_congr_left fun b hb => ?_
  simp only [Function.comp, UInt8.toNat_ofNat', id]
  exact Nat.mod_eq_of_lt (h b hb)
theorem str_nats (s : ByteArray) : str (nats s) = s := by
  apply ByteArray.ext
  apply Array.toList_inj.1
  simp only [str, nats, List.map_map]
  conv => rhs; rw [← List.map_id s.data.toList]
  exact List.map_congr_left fun b _ => by simp
theorem str_append (a b : List Nat) : str (a ++ b) = str a ++ str b := by
  apply ByteArray.ext
  apply Array.toList_inj.1
  simp [str, ByteArray.data_append]
theorem str_size (l : List Nat) : (str l).size = l.length := by simp [str, ByteArray.size]
theorem nats_append (a b : ByteArray) : nats (a ++ b) = nats a ++ nats b := by simp [nats, ByteArray.data_append]
theorem str_cells (s : ByteArray) : Lib.strCells s = ncells (nats s) := by simp [Lib.strCells, ncells, nats, List.map_map, Function.comp]
theorem byte_cells (l : List Nat) (h : ∀ b ∈ l, b < 256) : ncells l = Lib.byteCells (l.map UInt8.ofNat) := by
  simp only [ncells, Lib.byteCells, List.map_map]
  refine List.map_congr_left fun b hb => ?_
  simp only [Function.comp, UInt8.toNat_ofNat']
  rw [Nat.mod_eq_of_lt (h b hb)]
theorem ncells_append (a b : List Nat) : ncells (a ++ b) = ncells a ++ ncells b := by simp [ncells]
/-- What stands between two places. -/
def cut (s : ByteArray) (a b : Nat) : List Nat := ((nats s).drop a).take (b - a)
theorem nats_extract (s : ByteArray) (a b : Nat) : nats (s.extract a b) = cut s a b := by
  simp [nats, cut, ByteArray.data_extract, Array.toList_extract, List.extract, List.map_take, List.map_drop]
theorem drop_next (s : ByteArray) (i : Nat) (h : i < s.size) : (nats s).drop i = byt s i :: (nats s).drop (i + 1) := by
  have hl := nats_length s
  have hg := nats_get s i h
  rw [List.drop_eq_getElem_cons (by omega)]
  congr 1
  rw [List.getElem?_eq_getElem (by omega)] at hg
  exact Option.some.inj hg
theorem cut_self (s : ByteArray) (a : Nat) : cut s a a = [] := by simp [cut]
theorem cut_next (s : ByteArray) (a b : Nat) (h : a ≤ b) (hb : b < s.size) : cut s a (b + 1) = cut s a b ++ [byt s b] := by
  have hl := nats_length s
  have hg := nats_get s b hb
  unfold cut
  rw [show b + 1 - a = (b - a) + 1 from by omega, List.take_add_one, List.getElem?_drop, show a + (b - a) = b from by omega, hg]
  rfl
theorem cut_drop (s : ByteArray) (a b : Nat) (h : a ≤ b) : cut s a b ++ (nats s).drop b = (nats s).drop a := by
  unfold cut
  have := List.take_append_drop (b - a) ((nats s).drop a)
  rw [List.drop_drop, show a + (b - a) = b from by omega] at this
  exact this
theorem cut_length (s : ByteArray) (a b : Nat) (hb : b ≤ s.size) : (cut s a b).length = b - a := by
  have hl := nats_length s
  unfold cut
  rw [List.length_take, List.length_drop]
  omega
theorem cut_lt (s : ByteArray) (a b : Nat) : ∀ x ∈ cut s a b, x < 256 := fun x hx => nats_lt s x (List.mem_of_mem_drop (List.mem_of_mem_take hx))
theorem cut_cat (s : ByteArray) (a b c : Nat) (h : a ≤ b) (h' : b ≤ c) (hc : c ≤ s.size) : cut s a b ++ cut s b c = cut s a c := by
  induction c with
  | zero =>
    obtain rfl : b = 0 := by omega
    rw [cut_self, List.append_nil]
  | succ c ih =>
    rcases Nat.lt_or_ge c b with hlt | hge
    · obtain rfl : b = c + 1 := by omega
      rw [cut_self, List.append_nil]
    · rw [cut_next s b c hge (by omega), cut_next s a c (by omega) (by omega), ← List.append_assoc, ih hge (by omega)]
theorem extract_next (u : ByteArray) (k : Nat) (h : k < u.size) : u.extract 0 k ++ u.extract k (k + 1) = u.extract 0 (k + 1) := by
  have e : nats (u.extract 0 k ++ u.extract k (k + 1)) = nats (u.extract 0 (k + 1)) := by
    rw [nats_append, nats_extract, nats_extract, nats_extract, cut_cat u 0 k (k + 1) (by omega) (by omega) (by omega)]
  rw [← str_nats (u.extract 0 k ++ u.extract k (k + 1)), e, str_nats]
theorem extract_size0 (u : ByteArray) (a b : Nat) (h : a ≤ b) (hb : b ≤ u.size) : (u.extract a b).size = b - a := by rw [ByteArray.size_extract]; omega
theorem extract_all (u : ByteArray) : u.extract 0 u.size = u := by
  rw [← str_nats (u.extract 0 u.size), nats_extract, cut, List.drop_zero, List.take_of_length_le (by rw [nats_length]; omega), str_nats]
theorem extract_zero (u : ByteArray) : u.extract 0 0 = ⟨#[]⟩ := by
  rw [← str_nats (u.extract 0 0), nats_extract, cut_self]
  rfl
theorem extract_one (u : ByteArray) (k : Nat) (h : k < u.size) : u.extract k (k + 1) = str [byt u k] := by
  rw [← str_nats (u.extract k (k + 1)), nats_extract, cut_next u k k (by omega) h, cut_self]
  rfl
end Go.Proofs.Ytobhlppdolekoaa.Bytes
